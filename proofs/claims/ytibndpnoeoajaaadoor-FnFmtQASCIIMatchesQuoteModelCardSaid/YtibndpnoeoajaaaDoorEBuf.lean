/- A buffer of bytes that a call builds in a part of another row (an array in a struct) till it has no more room, and in a row of its own from then on: one relation, and a law for each kind of append. Plain words for memory; no program in sight. -/
import Derived.Lib.BufSteps
import Derived.Deep.AppendSrc
import Derived.WalkSmall
namespace Go.Proofs.YtibndpnoeoajaaaDoor
open Go.RowKit

/-- In w the slice v holds ks. It is either the stretch of the row b (a row of type T that held F in W) from off on, or a row of the call's own. Of what there was in W nothing has turned but that stretch. -/
structure EBuf (W : World) (T e : TypeId) (b off cap : Nat) (F : Array Value) (v : Value) (ks : List Value) (w : World) : Prop where
  os : w.os = W.os
  tape : w.tape = W.tape
  output : w.output = W.output
  size : W.heap.size ≤ w.heap.size
  block : ∀ k, k < W.heap.size → ¬ k = b → w.heap[k]? = W.heap[k]?
  lt : b < W.heap.size
  top : cap ≤ maxLen
  row : ∃ F' : Array Value, w.heap[b]? = some (.cells F' T (0, 0)) ∧ F'.size = F.size ∧ off + cap = F.size ∧ (∀ i, i < off → F'[i]? = F[i]?) ∧
    ((v = .slice (some ⟨b, off, none⟩) ks.length cap ∧ ks.length ≤ cap ∧ ∀ j, j < ks.length → F'[off + j]? = ks[j]?) ∨ (cap ≤ ks.length ∧ w.ownsRowF W.heap.size e 1 v ks.length ks))

section
variable {W : World} {T e : TypeId} {b off cap : Nat} {F : Array Value} {v : Value} {ks : List Value} {w : World}

theorem EBuf.start (hb : W.heap[b]? = some (.cells F T (0, 0))) (hc : off + cap = F.size) (hm : cap ≤ maxLen) : EBuf W T e b off cap F (.slice (some ⟨b, off, none⟩) 0 cap) [] W :=
  ⟨rfl, rfl, rfl, Nat.le_refl _, fun _ _ _ => rfl, (Array.getElem?_eq_some_iff.1 hb).1, hm, F, hb, rfl, hc, fun _ _ => rfl, .inl ⟨rfl, Nat.zero_le _, fun j h => by simp at h⟩⟩

/-- Blocks that are new, and draws, keep it. -/
theorem EBuf.on {w' : World} (h : EBuf W T e b off cap F v ks w) (hb : Below w.heap.size w w') : EBuf W T e b off cap F v ks w' := by
  obtain ⟨F', h1, h2, h3, h4, h5⟩ := h.row
  have hlt := h.lt
  have hsz := h.size
  refine ⟨hb.os.trans h.os, hb.tape.trans h.tape, hb.output.trans h.output, Nat.le_trans h.size hb.size, fun k hk hne => (hb.block k (by omega)).trans (h.block k hk hne), h.lt, h.top, F', (hb.block b (by omega)).trans h1, h2, h3, h4, h5.imp id fun ⟨hx, ho⟩ => ⟨hx, ?_⟩⟩
  exact ho.kept (row := none) ⟨hb.os, hb.tape, hb.output, hb.size, fun k hk _ => hb.block k hk⟩ (by cases hv : v.ownBlock <;> simp)
theorem EBuf.alloc (h : EBuf W T e b off cap F v ks w) (o : Obj) : EBuf W T e b off cap F v ks (w.alloc o) := h.on ((Below.refl _ _).alloc (Nat.le_refl _) o)
theorem EBuf.drewN (h : EBuf W T e b off cap F v ks w) (q : Nat) : EBuf W T e b off cap F v ks (w.drewN q) := h.on (below_drewN (Below.refl _ _) q)

/-- What the row was and what is in the buffer, at the end. -/
theorem EBuf.grownOwn {w' : World} {v' : Value} {ks' : List Value} (h : EBuf W T e b off cap F v ks w) (hown : w.ownsRowF W.heap.size e 1 v ks.length ks) (ho : w'.ownsRowF W.heap.size e 1 v' ks'.length ks') (hg : w.grownBy w' v.ownBlock) (hx : cap ≤ ks'.length) : EBuf W T e b off cap F v' ks' w' := by
  obtain ⟨F', h1, h2, h3, h4, _⟩ := h.row
  have hlt := h.lt
  have hsz := h.size
  have key : ∀ k, k < W.heap.size → w'.heap[k]? = w.heap[k]? := fun k hk => hg.block k (by omega) (fun e => by have := (hown.lt k e.symm).1; omega)
  exact ⟨hg.os.trans h.os, hg.tape.trans h.tape, hg.output.trans h.output, Nat.le_trans h.size hg.size, fun k hk hne => (key k hk).trans (h.block k hk hne), h.lt, h.top, F', (key b hlt).trans h1, h2, h3, h4, .inr ⟨hx, ho⟩⟩

/-- Nothing has turned that lies below the row. -/
theorem EBuf.below (h : EBuf W T e b off cap F v ks w) {B : Nat} (hB : B ≤ b) : Below B W w :=
  ⟨h.os, h.tape, h.output, h.size, fun k hk => h.block k (by have := h.lt; omega) (by omega)⟩

section
variable {P : Program}
theorem run_append_ebuf (t tx ty : TypeId) (i : TypeInfo) (ht : P.underlying t = some (.slice e)) (hi : P.info? e = some i) (hz : i.zero = some (.int .u8 0)) (hsize : i.size = 1) (hby : i.bytes = 1)
    (h : EBuf W T e b off cap F v ks w) (x : Value) (n : Nat) (news : List Value) (hs : Src P 1 tx x n news w) (hlen : ks.length + n ≤ 140737488355328)
    (hB : w.ownsRowF W.heap.size e 1 v ks.length ks → ∃ v' w', (Builtin.append_ #[t, tx] ty #[v, x]).run P w = .ok v' w' ∧ w'.ownsRowF W.heap.size e 1 v' (ks ++ news).length (ks ++ news) ∧ w.grownBy w' v.ownBlock) :
    ∃ v' w', (Builtin.append_ #[t, tx] ty #[v, x]).run P w = .ok v' w' ∧ EBuf W T e b off cap F v' (ks ++ news) w' := by
  obtain ⟨F', h1, h2, h3, h4, h5⟩ := h.row
  have hlt := h.lt
  have hsz := h.size
  have htop := h.top
  have hnl : news.length = n := by simpa using hs.newsLen
  rcases h5 with ⟨rfl, hle, hcells⟩ | ⟨hxx, hown⟩
  · by_cases hroom : ks.length + n ≤ cap
    · have hst := run_storeCells_atF P b (off + ks.length) T (0, 0) news 0 F' w h1 (by simp) (by omega) hs.one
      simp only [Nat.add_zero] at hst
      have hrun : (Builtin.append_ #[t, tx] ty #[.slice (some ⟨b, off, none⟩) ks.length cap, x]).run P w = .ok (.slice (some ⟨b, off, none⟩) (ks.length + n) cap) (w.setRow b (F'.toList.take (off + ks.length) ++ news ++ F'.toList.drop (off + ks.length + news.length)).toArray) := by
        rcases hs.kind with ⟨e', hk⟩ | hk <;> simp [Builtin.append_, run_underlying ht, run_underlying hk, sizeOf, typeInfo, hi, hsize, hs.len, hroom, hs.cells, Addr.add_lit, hst]
      refine ⟨_, _, hrun, h.os, h.tape, h.output, by simpa using h.size, fun k hk hne => (setRow_other w b k _ hne).trans (h.block k hk hne), h.lt, h.top, _, setRow_heap w b F' _ T _ h1, ?_, h3, fun j hj => ?_, .inl ⟨by rw [List.length_append, hnl], by rw [List.length_append, hnl]; exact hroom, fun j hj => ?_⟩⟩
      · simp only [List.size_toArray, List.length_append, List.length_take, List.length_drop, Array.length_toList]
        omega
      · rw [← h4 j hj, List.getElem?_toArray, List.append_assoc, List.getElem?_append_left (by simp; omega), List.getElem?_take, if_pos (by omega), Array.getElem?_toList]
      · rw [List.getElem?_toArray]
        rw [List.length_append, hnl] at hj
        have hl1 : (F'.toList.take (off + ks.length)).length = off + ks.length := by simp; omega
        by_cases hj1 : j < ks.length
        · rw [List.append_assoc, List.getElem?_append_left (by omega), List.getElem?_take, if_pos (by omega), Array.getElem?_toList, hcells j hj1, List.getElem?_append_left hj1]
        · rw [List.append_assoc, List.getElem?_append_right (by omega), hl1, List.getElem?_append_left (by omega), List.getElem?_append_right (by omega)]
          congr 1
          omega
    · have hold : (Builtin.firstCells i.size ks.length (.slice (some ⟨b, off, none⟩) ks.length cap)).run P w.drew = .ok ks.toArray w.drew := by
        refine run_firstCells_some w.drew i.size ks.length ⟨b, off, none⟩ ks.length cap ks (by rw [hsize, Nat.mul_one]) fun j u hu => ?_
        have hj := (List.getElem?_eq_some_iff.1 hu).1
        have h6 : w.drew.cell? ⟨b, off + j, none⟩ = F'[off + j]? := cell_of_row w.drew b (off + j) F' T (0, 0) h1
        rw [Addr.add_lit, h6, hcells j hj]
        exact hu
      have hrun := run_append_grow_src (P := P) w t tx ty e i (.int .u8 0) ht hi hz (some ⟨b, off, none⟩) ks.length cap ks hold x n news (by rw [hsize]; exact hs) (by omega) (by omega) (by rw [hby]; exact growslice_fits (by omega) (by omega))
      have hge := grownCap_ge w (ks.length + n) cap e
      have hcm := grownCap_le_maxLen w (ks.length + n) cap e (by unfold maxLen; omega)
      have hkey : ∀ k, k < w.heap.size → (w.drew.alloc (.cells ((ks ++ news).toArray ++ Builtin.zeroCells (Value.int .u8 0).cells (grownCap w (ks.length + n) cap e - (ks.length + n))) e)).heap[k]? = w.heap[k]? := fun k hk => Below.heap_alloc w.drew _ k hk
      refine ⟨_, _, hrun, h.os, h.tape, h.output, by simp; omega, fun k hk hne => (hkey k (by omega)).trans (h.block k hk hne), h.lt, h.top, F', (hkey b (by omega)).trans h1, h2, h3, h4, .inr ⟨by rw [List.length_append, hnl]; omega, by simp, .inr ⟨w.heap.size, _, _, (0, 0), by rw [List.length_append, hnl], hsz, heap_alloc_new w.drew _, Nat.zero_le _, by rw [List.length_append, hnl]; exact hge, hcm, ?_, ?_⟩⟩⟩
      · have hz1 : (Value.int IntKind.u8 0).cells.size = 1 := rfl
        simp only [Array.size_append, List.size_toArray, size_zeroCells, hz1, List.length_append, hnl]
        omega
      · simp only [Array.toList_append, Nat.mul_one]
        exact List.take_left
  · obtain ⟨v', w', hrun, ho, hg⟩ := hB hown
    exact ⟨v', w', hrun, h.grownOwn hown ho hg (by rw [List.length_append]; omega)⟩

/-- 'buf = append(buf, c, d)': the new bytes lie in the block that the statement has just laid. -/
theorem wpList_append_litE {ops : Array Oper} {rest : List Oper} {o : Oper} {a : Act} {Q : Exit → Act → World → Prop} (hgd : o.guard = none) (s x : Operand) (t : TypeId)
    (ho : o.op = .call { callee := .builtin .append, args := #[s, x], argTypes := #[t, t] })
    (i : TypeInfo) (ht : P.underlying t = some (.slice e)) (hi : P.info? e = some i) (hz : i.zero = some (.int .u8 0)) (hsize : i.size = 1) (hby : i.bytes = 1)
    (v : Value) (ks : List Value) (hs : a.eval s = v) (w0 : World) (news : List Value) (m : Nat) (hm : news.length = m) (h1 : ∀ u ∈ news, u.oneCell' = true) (hb : EBuf W T e b off cap F v ks w0)
    (hx : a.eval x = .slice (some ⟨w0.heap.size, 0, none⟩) m m) (hlen : ks.length + m ≤ 140737488355328)
    (h : ∀ v' w', EBuf W T e b off cap F v' (ks ++ news) w' → wpList P ops Q rest (a.put o.dst v') w') : wpList P ops Q (o :: rest) a (w0.alloc (.cells news.toArray e)) := by
  subst hm
  have hb' := hb.alloc (.cells news.toArray e)
  have hn : ∀ j u, news[j]? = some u → (w0.alloc (.cells news.toArray e)).cell? ((⟨w0.heap.size, 0, none⟩ : Addr).add j) = some u := by
    intro j u hj
    have e1 : (⟨w0.heap.size, 0, none⟩ : Addr).add j = ⟨w0.heap.size, j, none⟩ := by by_cases hj0 : j = 0 <;> simp [Addr.add, hj0]
    rw [e1, World.cell?_alloc_new, List.getElem?_toArray]
    exact hj
  refine wpList_plain hgd fun K hK => ?_
  obtain ⟨v', w', hr, h2⟩ := run_append_ebuf (P := P) t t o.type i ht hi hz hsize hby hb' _ news.length news (Src.ofSlice _ ht ⟨w0.heap.size, 0, none⟩ news.length news.length news (by rw [Nat.mul_one]) hn h1) hlen (fun hown => by
    obtain ⟨v', w', r1, r2, r3, _⟩ := run_append_ownF (P := P) (w0.alloc (.cells news.toArray e)) W.heap.size t o.type e i (.int .u8 0) 1 1 ht hi hz hsize hby rfl (by decide) v ks.length ks hown ⟨w0.heap.size, 0, none⟩ news.length news.length news (by rw [Nat.mul_one]) hn h1 (by unfold maxLen; omega) (by omega) hb'.size
    exact ⟨v', w', r1, by rw [List.length_append]; exact r2, r3⟩)
  unfold Oper.wp execOp
  simp only [ho, resolve, invoke, builtin, Sem.run_bind, Sem.run_pure, Result.andThen_ok, List.map_toArray, List.map_cons, List.map_nil, hs, hx, hr]
  exact hK _ _ (h v' w' h2)

/-- 'buf = append(buf, "\\x"...)': a string's bytes. -/
theorem wpList_append_textE {ops : Array Oper} {rest : List Oper} {o : Oper} {a : Act} {Q : Exit → Act → World → Prop} {w : World} (hgd : o.guard = none) (sl x : Operand) (t u : TypeId)
    (ho : o.op = .call { callee := .builtin .append, args := #[sl, x], argTypes := #[t, u] })
    (i : TypeInfo) (ht : P.underlying t = some (.slice e)) (hu : P.underlying u = some .string) (hi : P.info? e = some i) (hz : i.zero = some (.int .u8 0)) (hsize : i.size = 1) (hby : i.bytes = 1)
    (v : Value) (ks : List Value) (hs : a.eval sl = v) (hb : EBuf W T e b off cap F v ks w) (s : ByteArray) (hx : a.eval x = .string s) (hlen : ks.length + s.size ≤ 140737488355328)
    (h : ∀ v' w', EBuf W T e b off cap F v' (ks ++ byteCells s) w' → wpList P ops Q rest (a.put o.dst v') w') : wpList P ops Q (o :: rest) a w := by
  refine wpList_plain hgd fun K hK => ?_
  obtain ⟨v', w', hr, h2⟩ := run_append_ebuf (P := P) t u o.type i ht hi hz hsize hby hb _ s.size (byteCells s) (Src.ofString _ hu s) hlen (fun hown => by
    obtain ⟨v', w', r1, r2, r3, _⟩ := Lib.run_append_own_stringF (P := P) w W.heap.size t u o.type e i ht hu hi hz hsize hby v ks.length ks hown s (by unfold maxLen; omega) hlen hb.size
    have e1 : Lib.strCells s = byteCells s := rfl
    rw [e1] at r2
    exact ⟨v', w', r1, by rw [List.length_append, byteCells_length]; exact r2, r3⟩)
  unfold Oper.wp execOp
  simp only [ho, resolve, invoke, builtin, Sem.run_bind, Sem.run_pure, Result.andThen_ok, List.map_toArray, List.map_cons, List.map_nil, hs, hx, hr]
  exact hK _ _ (h v' w' h2)
end
end
end Go.Proofs.YtibndpnoeoajaaaDoor
