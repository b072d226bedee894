/- zzHist counts the bytes of a string. -/
import Derived.Test.YtdmmiiniikdapaaFmtProg
import Derived.Test.YtdmmiiniikdapaaFmtBlk
import Derived.Handy
import Derived.Outline
import Derived.WalkLawsBesides
import Derived.WalkSpells
import Derived.Laws.CopyOwn
set_option linter.unusedSimpArgs false
namespace Go.Proofs.YtdmmiiniikdapaaFmt
open Go.RowKit

/-- The 256 counters of a list of bytes. -/
def histC (l : List UInt8) : Array Value := Array.ofFn (n := 256) fun i => .int .i64 ((l.count (UInt8.ofNat i.val) : Nat) : Int)
theorem histC_nil : Tryf.zeroCells34 = histC [] := by kernel_rfl
theorem histC_size (l : List UInt8) : (histC l).size = 256 := by simp [histC]
theorem histC_get (l : List UInt8) (x : UInt8) : (histC l)[x.toNat]? = some (.int .i64 ((l.count x : Nat) : Int)) := by
  have h : x.toNat < 256 := UInt8.toNat_lt x
  unfold histC
  rw [Array.getElem?_ofFn, dif_pos h]
  simp
theorem histC_step (l : List UInt8) (x : UInt8) : (histC l).setIfInBounds x.toNat (.int .i64 (((l.count x : Nat) : Int) + 1)) = histC (l ++ [x]) := by
  apply Array.ext_getElem?
  intro j
  rw [Array.getElem?_setIfInBounds]
  unfold histC
  by_cases hj : x.toNat = j
  · subst hj
    have h : x.toNat < 256 := UInt8.toNat_lt x
    rw [if_pos rfl, if_pos (by simpa using h), Array.getElem?_ofFn, dif_pos h]
    simp
  · rw [if_neg hj, Array.getElem?_ofFn, Array.getElem?_ofFn]
    by_cases h : j < 256
    · rw [dif_pos h, dif_pos h]
      have : x ≠ UInt8.ofNat j := by
        intro e
        apply hj
        rw [e]
        simp; omega
      simp [List.count_append, List.count_singleton, this]
    · rw [dif_neg h, dif_neg h]

theorem histC_one (l : List UInt8) : (histC l).all (·.oneCell') = true := by
  unfold histC
  rw [Array.all_eq_true]
  intro i h
  rw [Array.getElem_ofFn]
  rfl

structure Hs (w wr : World) (s : ByteArray) (k : Nat) : Prop where
  res : Blk wr w.heap.size (histC []) 34
  cnt : Blk wr (w.heap.size + 1) (histC (s.data.toList.take k)) 34
  bel : Below w.heap.size w wr

set_option maxRecDepth 100000 in
set_option maxHeartbeats 2000000 in
theorem hist_any (s : ByteArray) (w : World) (hs : s.size ≤ 1099511627776) :
    Calls Tryf.prog 13 #[.string s] w fun e w' => e = .returned (.agg (histC s.data.toList)) ∧ Below w.heap.size w w' := by
  obtain ⟨n, hn⟩ : ∃ n, s.size = n := ⟨_, rfl⟩
  have HN := hide hn
  have HB := hide (show n ≤ 1099511627776 by omega)
  go_enter Tryf.func13, Tryf.ntmps13
  go_wp2
  have S0 : Hid (Hs w ((w.alloc (Obj.cells Tryf.zeroCells34 34)).alloc (Obj.cells Tryf.zeroCells34 34)) s 0) := by
    refine ⟨?_, ?_, ((Below.refl _ _).alloc (Nat.le_refl _) _).alloc (by simp) _⟩
    · rw [histC_nil]; exact (Blk.new w _ _).alloc _
    · rw [histC_nil]
      have h := Blk.new (w.alloc (Obj.cells (histC []) 34)) (histC []) 34
      have e : (w.alloc (Obj.cells (histC []) 34)).heap.size = w.heap.size + 1 := by simp
      rw [e] at h
      exact h
  go_loopw [4] (fun ix wr => ∃ k : Nat, k ≤ s.size ∧ ix = .int .i64 k ∧ Hid (Hs w wr s k)) (fun ix _ => s.size - (intOf ix).toNat)
  case atStart => exact ⟨0, Nat.zero_le _, rfl, S0⟩
  case round =>
    obtain ⟨k, hk, rfl, M⟩ := hrel
    clear S0
    by_cases hlt : k < s.size
    · obtain ⟨x, hx⟩ : ∃ x : UInt8, s[k]'hlt = x := ⟨_, rfl⟩
      obtain ⟨c, hc⟩ : ∃ c : Nat, (s.data.toList.take k).count x = c := ⟨_, rfl⟩
      have hcb : c ≤ k := by
        have := List.count_le_length (a := x) (l := s.data.toList.take k)
        rw [hc] at this
        simp at this
        omega
      have hw : wrap64 ((c : Int) + 1) = (c : Int) + 1 := by have := HB.out; unfold wrap64; omega
      have HX := hide hx
      have HC := hide hc
      obtain ⟨y, hy⟩ : ∃ y : Nat, (s[k]'hlt).toNat = y := ⟨_, rfl⟩
      have hyx : x.toNat = y := by rw [← hx]; exact hy
      have hy2 : y < 256 := by rw [← hyx]; exact UInt8.toNat_lt x
      have HYX := hide hyx
      have hcell : wr.cell? ⟨w.heap.size + 1, y, none⟩ = some (.int .i64 (c : Int)) := M.out.cnt.at (by rw [← hyx, histC_get, hc])
      have hfr : wr.frozen? ⟨w.heap.size + 1, y, none⟩ = false := M.out.cnt.free y
      clear hx hc hcb hyx hn
      go_wp2
      go_roundw
      case rel =>
        refine ⟨k + 1, by omega, by go_num, hide ⟨?_, ?_, M.out.bel.setCell (Nat.le_succ _) _⟩⟩
        · exact M.out.res.other (by simp) _
        · have h := M.out.cnt.set y (.int .i64 ((c : Int) + 1))
          rw [← HYX.out, ← HC.out, histC_step] at h
          have e : s.data.toList.take (k + 1) = s.data.toList.take k ++ [x] := by
            rw [List.take_add_one]
            have hk2 : s.data.toList[k]? = some x := by
              rw [← HX.out]
              simp [hlt]
              rfl
            rw [hk2]
            rfl
          rw [e, ← HYX.out, ← HC.out]
          exact h
      case measure => simp [intOf]; omega
    · have hek : k = s.size := by omega
      have hgc : wr.heap[w.heap.size + 1]? = some (.cells (histC s.data.toList) 34 (0, 0)) := by
        have h := M.out.cnt
        have e : s.data.toList.take k = s.data.toList := List.take_of_length_le (by rw [hek]; simp)
        rw [e] at h
        exact h
      have hgr : wr.heap[w.heap.size]? = some (.cells (histC []) 34 (0, 0)) := M.out.res
      go_wp2_with (first
        | (refine wpList_load_row rfl 34 (.tmp 3) rfl (w.heap.size + 1) rfl 34 (histC s.data.toList) (0, 0) _ hgc Tryf.underlying34 rfl (by rw [histC_size]; kernel_rfl) ?_)
        | (refine wpList_store_row rfl 34 (.tmp 2) (.tmp 18) rfl w.heap.size (histC s.data.toList) rfl rfl 34 (histC []) hgr (by rw [histC_size]; kernel_rfl) (by rw [histC_size, histC_size]) (histC_one _) ?_))
      refine bodyPost_ret (results_cell_row (P := Tryf.prog) rfl _ _ w.heap.size 34 (histC s.data.toList) (0, 0) _ rfl (setRow_heap wr w.heap.size (histC []) _ 34 _ hgr) Tryf.underlying34 rfl (by rw [histC_size]; kernel_rfl)) rfl ?_
      exact ⟨rfl, below_setRow M.out.bel (Nat.le_refl _) _⟩
end Go.Proofs.YtdmmiiniikdapaaFmt
