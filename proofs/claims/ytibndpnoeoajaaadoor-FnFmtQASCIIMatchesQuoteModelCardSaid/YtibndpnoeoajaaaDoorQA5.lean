/- The law's helpers at ASCII strings by contracts: a hexadecimal digit, the escaped text, a text in its field, and the bytes' reading as a string. Conditions: strings of at most 2^20 bytes, a width of at most 2^16. -/
import Derived.Test.YtibndpnoeoajaaaDoorQA4
import Derived.Lib.BufSteps
set_option linter.unusedSimpArgs false
namespace Go.Proofs.YtibndpnoeoajaaaDoor
open Go.RowKit

/-- 'buf = append(buf, c, d)' onto a row of the call's own: the new bytes lie in the block that the statement has just laid. -/
theorem wpList_append_litO {P : Program} {ops : Array Oper} {rest : List Oper} {o : Oper} {a : Act} {Q : Exit → Act → World → Prop} (hgd : o.guard = none) (s x : Operand) (t : TypeId)
    (ho : o.op = .call { callee := .builtin .append, args := #[s, x], argTypes := #[t, t] })
    (B : Nat) (e : TypeId) (i : TypeInfo) (ht : P.underlying t = some (.slice e)) (hi : P.info? e = some i) (hz : i.zero = some (.int .u8 0)) (hsize : i.size = 1) (hby : i.bytes = 1)
    (v : Value) (n : Nat) (xs : List Value) (hs : a.eval s = v) (W0 w0 : World) (news : List Value) (m : Nat) (hm : news.length = m) (h1 : ∀ u ∈ news, u.oneCell' = true) (hb : Lib.OwnBuf B e v n xs W0 w0)
    (hx : a.eval x = .slice (some ⟨w0.heap.size, 0, none⟩) m m) (hlen : n + m ≤ 140737488355328)
    (h : ∀ v' w', Lib.OwnBuf B e v' (n + m) (xs ++ news) W0 w' → wpList P ops Q rest (a.put o.dst v') w') : wpList P ops Q (o :: rest) a (w0.alloc (.cells news.toArray e)) := by
  have hb' := hb.alloc (.cells news.toArray e)
  refine wpList_append_ownF _ hgd s x t ho B e i (.int .u8 0) 1 1 ht hi hz hsize hby rfl (by decide) v n xs hs hb'.1 ⟨w0.heap.size, 0, none⟩ m m news hx (by omega) ?_ h1 (by unfold maxLen; omega) (by omega) hb'.2.2 ?_
  · intro j u hj
    have e1 : (⟨w0.heap.size, 0, none⟩ : Addr).add j = ⟨w0.heap.size, j, none⟩ := by by_cases hj0 : j = 0 <;> simp [Addr.add, hj0]
    rw [e1, World.cell?_alloc_new, List.getElem?_toArray]
    exact hj
  · intro v' w' ho' hg _
    exact h v' w' (hb'.grown ho' hg)

/-- The same, the bytes of a slice being appended. -/
theorem wpList_append_slO {P : Program} {ops : Array Oper} {rest : List Oper} {o : Oper} {a : Act} {Q : Exit → Act → World → Prop} (hgd : o.guard = none) (s x : Operand) (t : TypeId)
    (ho : o.op = .call { callee := .builtin .append, args := #[s, x], argTypes := #[t, t] })
    (B : Nat) (e : TypeId) (i : TypeInfo) (ht : P.underlying t = some (.slice e)) (hi : P.info? e = some i) (hz : i.zero = some (.int .u8 0)) (hsize : i.size = 1) (hby : i.bytes = 1)
    (v : Value) (n : Nat) (xs : List Value) (hs : a.eval s = v) (W0 w0 : World) (hb : Lib.OwnBuf B e v n xs W0 w0) (b off m c : Nat) (zs : List UInt8) (hin : SlIn w0 w0.heap.size (some ⟨b, off, none⟩) m c (zs.map bt))
    (hx : a.eval x = .slice (some ⟨b, off, none⟩) m c) (hlen : n + m ≤ 140737488355328)
    (h : ∀ v' w', Lib.OwnBuf B e v' (n + m) (xs ++ zs.map bt) W0 w' → wpList P ops Q rest (a.put o.dst v') w') : wpList P ops Q (o :: rest) a w0 := by
  have hl := hin.len
  refine wpList_append_ownF _ hgd s x t ho B e i (.int .u8 0) 1 1 ht hi hz hsize hby rfl (by decide) v n xs hs hb.1 ⟨b, off, none⟩ m c (zs.map bt) hx (by omega) ?_ (bts_one zs) (by unfold maxLen; omega) (by omega) hb.2.2 ?_
  · intro j u hj
    obtain ⟨b', off', e', _, hc⟩ := hin.cells j u hj
    simp only [Option.some.injEq, Addr.mk.injEq, and_true] at e'
    obtain ⟨rfl, rfl⟩ := e'
    rw [Addr.add_lit]
    exact hc
  · intro v' w' ho' hg _
    exact h v' w' (hb.grown ho' hg)

theorem own_inF {w : World} {base : Nat} {e : TypeId} {v : Value} {n : Nat} {xs : List Value} (h : w.ownsRowF base e 1 v n xs) : ∃ A c, v = .slice A n c ∧ SlIn w w.heap.size A n c xs := by
  have hl : xs.length = n := by simpa using h.1
  rcases h.2 with ⟨h', h0⟩ | ⟨g, cap, cur, fz, h', hb, hg, hfz, hnc, hcm, hcs, htake⟩
  · subst h'; subst h0
    have : xs = [] := List.eq_nil_of_length_eq_zero hl
    subst this
    exact ⟨none, 0, rfl, SlIn.nilSlice w _⟩
  · refine ⟨_, cap, h', fun e => (by cases e), hnc, hcm, hl, fun j u hu => ⟨g, 0, rfl, (Array.getElem?_eq_some_iff.1 hg).1, ?_⟩⟩
    have := h.cells (g := g) (by rw [h']; rfl) j u hu
    simpa [Addr.add_lit] using this

theorem SlIn.form {w : World} {B n c : Nat} {A : Option Addr} {xs : List Value} (h : SlIn w B A n c xs) (hn : 0 < n) : ∃ b off, A = some ⟨b, off, none⟩ := by
  have hl := h.len
  obtain ⟨b, off, e, _⟩ := h.cells 0 (xs[0]'(by omega)) (by simp)
  exact ⟨b, off, e⟩
theorem conv_sl {w : World} {B n c : Nat} {A : Option Addr} {zs : List UInt8} (h : SlIn w B A n c (zs.map bt)) (hn : 0 < n) : (convert 24 9 (.slice A n c)).run Tryd.prog w = .ok (.string ⟨zs.toArray⟩) w := by
  obtain ⟨b, off, rfl⟩ := h.form hn
  rw [← h.size]
  exact run_convert_bytes_back (P := Tryd.prog) w 24 9 5 ⟨b, off, none⟩ c zs Tryd.underlying24 Tryd.underlying5 Tryd.underlying9 (fun j hj => by
    obtain ⟨b', off', e, _, hc⟩ := h.cells j (bt zs[j]) (by rw [List.getElem?_map, List.getElem?_eq_getElem hj]; rfl)
    simp only [Option.some.injEq, Addr.mk.injEq, and_true] at e
    obtain ⟨rfl, rfl⟩ := e
    rw [Addr.add_lit]
    exact hc)
theorem conv_fb {w : World} {B n c : Nat} {A : Option Addr} {zs : List UInt8} (h : SlIn w B A n c (zs.map bt)) (hn : 0 < n) : (convert 28 9 (.slice A n c)).run Tryd.prog w = .ok (.string ⟨zs.toArray⟩) w := by
  obtain ⟨b, off, rfl⟩ := h.form hn
  rw [← h.size]
  exact run_convert_bytes_back (P := Tryd.prog) w 28 9 5 ⟨b, off, none⟩ c zs Tryd.underlying28 Tryd.underlying5 Tryd.underlying9 (fun j hj => by
    obtain ⟨b', off', e, _, hc⟩ := h.cells j (bt zs[j]) (by rw [List.getElem?_map, List.getElem?_eq_getElem hj]; rfl)
    simp only [Option.some.injEq, Addr.mk.injEq, and_true] at e
    obtain ⟨rfl, rfl⟩ := e
    rw [Addr.add_lit]
    exact hc)
theorem conv_buf {w W : World} {B e n : Nat} {v : Value} {zs : List UInt8} (h : Lib.OwnBuf B e v n (zs.map bt) W w) (hn : 0 < n) : (convert 24 9 v).run Tryd.prog w = .ok (.string ⟨zs.toArray⟩) w := by
  obtain ⟨A, c, rfl, hin⟩ := own_inF h.1
  exact conv_sl hin hn

theorem hexDigit_any (d : Nat) (hd : d < 16) (w : World) : Calls Tryd.prog 10 #[.int .u8 (d : Int), .bool false] w fun e w' => e = .returned (.int .u8 (Lib.hexDigit d)) ∧ w = w' := by
  obtain ⟨o, ho⟩ : ∃ o, Lib.hexDigit d = o := ⟨_, rfl⟩
  rw [ho]
  unfold Lib.hexDigit at ho
  by_cases h : d < 10
  · rw [if_pos h] at ho; subst ho
    go_enter Tryd.func10, Tryd.ntmps10
    go_wp2
    go_ret
    exact ⟨rfl, rfl⟩
  · rw [if_neg h] at ho; subst ho
    go_enter Tryd.func10, Tryd.ntmps10
    go_wp2
    go_ret
    exact ⟨congrArg (fun z => Ending.returned (.int .u8 z)) (by omega), rfl⟩

theorem step_buf {B t m n : Nat} {acc e : List Int} {v : Value} {news : List Value} {w w' : World} (h : Lib.OwnBuf B t v n (Lib.intCells (34 :: acc) ++ news) w w') (hn : n = 1 + acc.length + m) (hm : e.length = m) (he : news = Lib.intCells e) : Lib.OwnBuf B t v (1 + (acc ++ e).length) (Lib.intCells (34 :: (acc ++ e))) w w' := by
  subst hn he
  have e1 : 1 + (acc ++ e).length = 1 + acc.length + m := by simp; omega
  rw [e1]
  simpa [Lib.intCells] using h

theorem hexDigit_byte (d : Nat) (h : d < 16) : 48 ≤ Lib.hexDigit d ∧ Lib.hexDigit d < 128 := by
  unfold Lib.hexDigit
  split <;> omega
end Go.Proofs.YtibndpnoeoajaaaDoor
