/- Plain words for memory: a slice that reads as a list of one-cell elements, wherever it lies, and what keeps it so. No program in sight. -/
import Derived.Below
import Derived.Laws.OwnMore
import Derived.Deep.Draws
import Derived.Deep.AppendLies
import Derived.ChangeSlices
import Derived.SliceStrings
import Derived.DataReads
import Derived.Lib.AppendStr
import Derived.OpenShut
namespace Go.Proofs.YtdmmiiniikdapaaFmt
open Go.RowKit

/-- A fact kept from the walk. -/
theorem hide {p : Prop} (h : p) : Hid p := h

/-- A byte as a cell. -/
abbrev bt (c : UInt8) : Value := .int .u8 (c.toNat : Int)

/-- The slice value '.slice A n c' is a slice that holds the cells xs, one an element, in a block below B. -/
structure SlIn (w : World) (B : Nat) (A : Option Addr) (n c : Nat) (xs : List Value) : Prop where
  isNil : A = none → n = 0 ∧ c = 0
  le : n ≤ c
  top : c ≤ maxLen
  len : xs.length = n
  cells : ∀ j u, xs[j]? = some u → ∃ b off, A = some ⟨b, off, none⟩ ∧ b < B ∧ w.cell? ⟨b, off + j, none⟩ = some u

section
variable {w w' : World} {B B' : Nat} {A : Option Addr} {n c : Nat} {xs : List Value}

theorem SlIn.nilSlice (w : World) (B : Nat) : SlIn w B none 0 0 [] := ⟨fun _ => ⟨rfl, rfl⟩, Nat.le_refl _, Nat.zero_le _, rfl, fun _ _ h => by simp at h⟩

theorem SlIn.cell (h : SlIn w B A n c xs) {k : Nat} (hk : k < n) : ∃ b off u, A = some ⟨b, off, none⟩ ∧ b < B ∧ xs[k]? = some u ∧ w.cell? ⟨b, off + k, none⟩ = some u := by
  have hl : k < xs.length := by rw [h.len]; exact hk
  obtain ⟨b, off, e, hb, hc⟩ := h.cells k _ (List.getElem?_eq_getElem hl)
  exact ⟨b, off, _, e, hb, List.getElem?_eq_getElem hl, hc⟩

/-- The k-th element of a slice of bytes. -/
theorem SlIn.byte {zs : List UInt8} (h : SlIn w B A n c (zs.map bt)) {k : Nat} (hk : k < n) : ∃ b off x, A = some ⟨b, off, none⟩ ∧ b < B ∧ zs[k]? = some x ∧ w.cell? ⟨b, off + k, none⟩ = some (.int .u8 (x.toNat : Int)) := by
  obtain ⟨b, off, u, e, hb, hx, hc⟩ := h.cell hk
  rw [List.getElem?_map] at hx
  cases hz : zs[k]? with
  | none => rw [hz] at hx; cases hx
  | some x =>
    rw [hz] at hx
    obtain rfl : bt x = u := Option.some.inj hx
    exact ⟨b, off, x, e, hb, rfl, hc⟩

/-- The k-th element of a slice of integers. -/
theorem SlIn.num {kd : IntKind} {zs : List Int} (h : SlIn w B A n c (zs.map (Value.int kd))) {k : Nat} (hk : k < n) : ∃ b off x, A = some ⟨b, off, none⟩ ∧ b < B ∧ zs[k]? = some x ∧ w.cell? ⟨b, off + k, none⟩ = some (.int kd x) := by
  obtain ⟨b, off, u, e, hb, hx, hc⟩ := h.cell hk
  rw [List.getElem?_map] at hx
  cases hz : zs[k]? with
  | none => rw [hz] at hx; cases hx
  | some x =>
    rw [hz] at hx
    obtain rfl : Value.int kd x = u := Option.some.inj hx
    exact ⟨b, off, x, e, hb, rfl, hc⟩

theorem SlIn.size {zs : List UInt8} (h : SlIn w B A n c (zs.map bt)) : zs.length = n := by simpa using h.len

theorem SlIn.keep (h : SlIn w B A n c xs) (hk : ∀ p : Addr, p.block < B → w'.cell? p = w.cell? p) : SlIn w' B A n c xs :=
  ⟨h.isNil, h.le, h.top, h.len, fun j u hu => by
    obtain ⟨b, off, e, hb, hc⟩ := h.cells j u hu
    exact ⟨b, off, e, hb, (hk _ hb).trans hc⟩⟩
theorem SlIn.mono (h : SlIn w B A n c xs) (hB : B ≤ B') : SlIn w B' A n c xs :=
  ⟨h.isNil, h.le, h.top, h.len, fun j u hu => by
    obtain ⟨b, off, e, hb, hc⟩ := h.cells j u hu
    exact ⟨b, off, e, Nat.lt_of_lt_of_le hb hB, hc⟩⟩
theorem SlIn.below (h : SlIn w B A n c xs) (hb : Below B' w w') (hB : B ≤ B') : SlIn w' B A n c xs := h.keep fun _ hp => hb.cell (Nat.lt_of_lt_of_le hp hB)
theorem SlIn.alloc (h : SlIn w B A n c xs) (hB : B ≤ w.heap.size) (o : Obj) : SlIn (w.alloc o) B A n c xs := h.keep fun p hp => World.cell?_alloc_lt w o p (Nat.lt_of_lt_of_le hp hB)
theorem SlIn.drew (h : SlIn w B A n c xs) : SlIn w.drew B A n c xs := h.keep fun _ _ => rfl
theorem SlIn.drewN (h : SlIn w B A n c xs) (k : Nat) : SlIn (w.drewN k) B A n c xs := h.keep fun _ _ => rfl

/-- A row of the call's own reads as a slice. -/
theorem SlIn.of_own {base : Nat} {e : TypeId} (h : w.ownsRow base e 1 (.slice A n c) n xs) : SlIn w w.heap.size A n c xs := by
  have hl : xs.length = n := by simpa using h.1
  rcases h.2 with ⟨h', h0⟩ | ⟨g, cap, cur, h', hb, hg, hnc, hcm, hcs, htake⟩
  · simp only [Value.slice.injEq] at h'
    obtain ⟨rfl, _, rfl⟩ := h'
    subst h0
    have : xs = [] := List.eq_nil_of_length_eq_zero hl
    subst this
    exact SlIn.nilSlice w _
  · simp only [Value.slice.injEq, true_and] at h'
    obtain ⟨rfl, rfl⟩ := h'
    refine ⟨fun e => (by cases e), hnc, hcm, hl, fun j u hu => ⟨g, 0, rfl, (Array.getElem?_eq_some_iff.1 hg).1, ?_⟩⟩
    have := h.cells (g := g) rfl j u hu
    simpa [Addr.add_lit] using this

/-- What is owned is a slice value. -/
theorem own_form {base : Nat} {e : TypeId} {v : Value} (h : w.ownsRow base e 1 v n xs) : ∃ A c, v = .slice A n c := by
  rcases h.2 with ⟨rfl, rfl⟩ | ⟨g, cap, cur, rfl, _⟩
  · exact ⟨_, _, rfl⟩
  · exact ⟨_, _, rfl⟩

/-- What is owned from a number on is owned from every smaller number on. -/
theorem own_mono {base base' : Nat} {e : TypeId} {v : Value} (h : w.ownsRow base e 1 v n xs) (hb : base' ≤ base) : w.ownsRow base' e 1 v n xs := by
  refine ⟨h.1, ?_⟩
  rcases h.2 with h0 | ⟨g, cap, cur, h1, h2, r⟩
  · exact .inl h0
  · exact .inr ⟨g, cap, cur, h1, Nat.le_trans hb h2, r⟩

/-- A row of the call's own stays while nothing below a number above it turns. -/
theorem own_below {base : Nat} {e : TypeId} {v : Value} (h : w.ownsRow base e 1 v n xs) (hb : Below w.heap.size w w') : w'.ownsRow base e 1 v n xs :=
  h.kept (row := none) ⟨hb.os, hb.tape, hb.output, hb.size, fun k hk _ => hb.block k hk⟩ (by cases v.ownBlock <;> simp)

/-- A row made behind another is another row. -/
theorem own_apart {w1 : World} {B1 e1 e2 n1 n2 : Nat} {v1 v2 : Value} {xs1 xs2 : List Value} (h1 : w1.ownsRow B1 e1 1 v1 n1 xs1) (h2 : w.ownsRow w1.heap.size e2 1 v2 n2 xs2) : v2.ownBlock = none ∨ v2.ownBlock ≠ v1.ownBlock := by
  cases hv : v2.ownBlock with
  | none => exact .inl rfl
  | some g =>
    right
    intro e
    have := (h1.lt g e.symm).2
    have := (h2.lt g hv).1
    omega

/-- A cell of block 0 stays while nothing below a number turns. -/
theorem cellOn {w w' : World} {B : Nat} {v : Value} (h : w.cell? ⟨0, 0, none⟩ = some v) (hb : Below B w w') (hB : 0 < B) : w'.cell? ⟨0, 0, none⟩ = some v := (hb.cell (p := ⟨0, 0, none⟩) hB).trans h

/-- The first part of a slice, 's[:k]'. -/
theorem SlIn.pre (h : SlIn w B A n c xs) {k : Nat} (hk : k ≤ n) : SlIn w B A k c (xs.take k) :=
  ⟨fun e => by have := h.isNil e; omega, Nat.le_trans hk h.le, h.top, by rw [List.length_take, h.len]; omega, fun j u hu => by
    rw [List.getElem?_take] at hu
    split at hu
    · exact h.cells j u hu
    · cases hu⟩

/-- What lies behind place k, 's[k:]': the model keeps the address where the cut stands at the capacity's end. -/
theorem SlIn.cut (h : SlIn w B A n c xs) {k : Nat} (hk : k ≤ n) : SlIn w B (if c = k then A else A.map (·.add k)) (n - k) (c - k) (xs.drop k) := by
  refine ⟨fun e => ?_, by have := h.le; omega, by have := h.top; omega, by rw [List.length_drop, h.len], fun j u hu => ?_⟩
  · by_cases hc : c = k
    · have := h.le; omega
    · rw [if_neg hc] at e
      have := h.isNil (by simpa using e)
      omega
  · rw [List.getElem?_drop] at hu
    obtain ⟨b, off, e, hb, hcell⟩ := h.cells (k + j) u hu
    have hlt : k + j < xs.length := (List.getElem?_eq_some_iff.1 hu).1
    have hle := h.le
    rw [h.len] at hlt
    refine ⟨b, off + k, ?_, hb, by rw [Nat.add_assoc]; exact hcell⟩
    rw [if_neg (by omega), e]
    simp [Addr.add_lit]
theorem SlIn.cut_end (h : SlIn w B A n c xs) {k : Nat} (hk : k ≤ n) (hc : c = k) : SlIn w B A (n - k) 0 (xs.drop k) := by
  have := h.cut hk
  rw [if_pos hc, show c - k = 0 by omega] at this
  exact this
theorem SlIn.cut_in (h : SlIn w B A n c xs) {k : Nat} (hk : k ≤ n) (hc : ¬ c = k) : SlIn w B (A.map (·.add k)) (n - k) (c - k) (xs.drop k) := by
  have := h.cut hk
  rw [if_neg hc] at this
  exact this
end

/-! ### append onto a row of the call's own, from whatever slice -/

theorem run_append_types {P : Program} (w : World) {t u e e' : TypeId} (ty : TypeId) (a a' : Option Addr) (n c n' c' : Nat) (ht : P.underlying t = some (.slice e)) (hu : P.underlying u = some (.slice e')) :
    (Builtin.append_ #[t, u] ty #[.slice a n c, .slice a' n' c']).run P w = (Builtin.append_ #[t, t] ty #[.slice a n c, .slice a' n' c']).run P w := by
  simp [Builtin.append_, run_underlying ht, run_underlying hu]

theorem run_append_in {P : Program} (w : World) (base : Nat) (t u ty e e' : TypeId) (i : TypeInfo) (z : Value) (bytes : Nat) (ht : P.underlying t = some (.slice e)) (hu : P.underlying u = some (.slice e')) (hi : P.info? e = some i) (hz : i.zero = some z)
    (hsize : i.size = 1) (hby : i.bytes = bytes) (hzs : z.cells.size = 1)
    (v : Value) (n : Nat) (xs : List Value) (hown : w.ownsRow base e 1 v n xs) (B : Nat) (A : Option Addr) (m c : Nat) (news : List Value) (hin : SlIn w B A m c news) (h1 : ∀ u ∈ news, u.oneCell' = true)
    (h63 : n + m ≤ maxLen) (hbytes : (n + m) * bytes ≤ 140737488355328) (hbase : base ≤ w.heap.size) :
    ∃ v' w', (Builtin.append_ #[t, u] ty #[v, .slice A m c]).run P w = .ok v' w' ∧ w'.ownsRow base e 1 v' (n + m) (xs ++ news) ∧ w.grownBy w' v.ownBlock := by
  obtain ⟨A0, c0, rfl⟩ := own_form hown
  rw [run_append_types w ty _ _ _ _ _ _ ht hu]
  cases A with
  | none =>
    obtain ⟨rfl, rfl⟩ := hin.isNil rfl
    obtain rfl : news = [] := List.eq_nil_of_length_eq_zero hin.len
    exact ⟨_, w, run_append_owned_none (P := P) w base t ty e i 1 ht hi _ n xs hown, by simpa using hown, ⟨rfl, rfl, rfl, Nat.le_refl _, fun _ _ _ => rfl⟩⟩
  | some ad =>
    have hnews : ∀ j u, news[j]? = some u → w.cell? (ad.add j) = some u := fun j u hu => by
      obtain ⟨b, off, e, _, hc⟩ := hin.cells j u hu
      obtain rfl : ad = ⟨b, off, none⟩ := Option.some.inj e
      rw [Addr.add_lit]; exact hc
    obtain ⟨v', w', hr, h2, h3, _⟩ := run_append_own (P := P) w base t ty e i z 1 bytes ht hi hz hsize hby hzs (by decide) _ n xs hown ad m c news (by rw [hin.len, Nat.mul_one]) hnews h1 h63 hbytes hbase
    exact ⟨v', w', hr, h2, h3⟩

theorem wpList_append_in {P : Program} (w : World) {ops : Array Oper} {rest : List Oper} {o : Oper} {a : Act} {Q : Exit → Act → World → Prop} (hgd : o.guard = none) (s x : Operand) (t u : TypeId)
    (ho : o.op = .call { callee := .builtin .append, args := #[s, x], argTypes := #[t, u] })
    (base : Nat) (e e' : TypeId) (i : TypeInfo) (z : Value) (bytes : Nat) (ht : P.underlying t = some (.slice e)) (hu : P.underlying u = some (.slice e')) (hi : P.info? e = some i) (hz : i.zero = some z)
    (hsize : i.size = 1) (hby : i.bytes = bytes) (hzs : z.cells.size = 1)
    (v : Value) (n : Nat) (xs : List Value) (hs : a.eval s = v) (hown : w.ownsRow base e 1 v n xs) (B : Nat) (A : Option Addr) (m c : Nat) (news : List Value) (hx : a.eval x = .slice A m c) (hin : SlIn w B A m c news) (h1 : ∀ u ∈ news, u.oneCell' = true)
    (h63 : n + m ≤ maxLen) (hbytes : (n + m) * bytes ≤ 140737488355328) (hbase : base ≤ w.heap.size)
    (h : ∀ A' c' w', w'.ownsRow base e 1 (.slice A' (n + m) c') (n + m) (xs ++ news) → w.grownBy w' v.ownBlock → wpList P ops Q rest (a.put o.dst (.slice A' (n + m) c')) w') : wpList P ops Q (o :: rest) a w := by
  refine wpList_plain hgd fun K hK => ?_
  obtain ⟨v', w', hr, h2, h3⟩ := run_append_in (P := P) w base t u o.type e e' i z bytes ht hu hi hz hsize hby hzs v n xs hown B A m c news hin h1 h63 hbytes hbase
  obtain ⟨A', c', rfl⟩ := own_form h2
  unfold Oper.wp execOp
  simp only [ho, resolve, invoke, builtin, Sem.run_bind, Sem.run_pure, Result.andThen_ok, List.map_toArray, List.map_cons, List.map_nil, hs, hx, hr]
  exact hK _ _ (h A' c' w' h2 h3)

/-- The same, a string's bytes being appended. -/
theorem wpList_append_str {P : Program} (w : World) {ops : Array Oper} {rest : List Oper} {o : Oper} {a : Act} {Q : Exit → Act → World → Prop} (hgd : o.guard = none) (s x : Operand) (t u : TypeId)
    (ho : o.op = .call { callee := .builtin .append, args := #[s, x], argTypes := #[t, u] })
    (base : Nat) (e : TypeId) (i : TypeInfo) (ht : P.underlying t = some (.slice e)) (hu : P.underlying u = some .string) (hi : P.info? e = some i) (hz : i.zero = some (.int .u8 0))
    (hsize : i.size = 1) (hby : i.bytes = 1)
    (v : Value) (n : Nat) (xs : List Value) (hs : a.eval s = v) (hown : w.ownsRow base e 1 v n xs) (t' : ByteArray) (hx : a.eval x = .string t')
    (h63 : n + t'.size ≤ maxLen) (hbytes : n + t'.size ≤ 140737488355328) (hbase : base ≤ w.heap.size)
    (h : ∀ A' c' w', w'.ownsRow base e 1 (.slice A' (n + t'.size) c') (n + t'.size) (xs ++ t'.data.toList.map bt) → w.grownBy w' v.ownBlock → wpList P ops Q rest (a.put o.dst (.slice A' (n + t'.size) c')) w') : wpList P ops Q (o :: rest) a w := by
  refine Lib.wpList_append_own_string w hgd s x t u ho base e i ht hu hi hz hsize hby v n xs hs hown t' hx h63 hbytes hbase fun v' w' h2 h3 _ => ?_
  obtain ⟨A', c', rfl⟩ := own_form h2
  exact h A' c' w' h2 h3

theorem u8_of {a : Int} (h : (Lit.int .u8 a).wf = true) : ∃ x : UInt8, a = (x.toNat : Int) := by
  have hb := bounds_u8 h
  refine ⟨UInt8.ofNat a.toNat, ?_⟩
  rw [UInt8.toNat_ofNat']
  omega

/-- The one-element literal that an append of one element lays first. -/
theorem SlIn.one (w : World) (v : Value) (t : TypeId) : SlIn (w.alloc (.cells #[v] t)) (w.heap.size + 1) (some ⟨w.heap.size, 0, none⟩) 1 1 [v] :=
  ⟨fun e => (by cases e), Nat.le_refl _, by unfold maxLen; omega, rfl, fun j u hu => by
    match j, hu with
    | 0, hu => simp at hu; subst hu; exact ⟨w.heap.size, 0, rfl, Nat.lt_succ_self _, by simp⟩⟩

theorem bts_one (zs : List UInt8) : ∀ u ∈ zs.map bt, u.oneCell' = true := by
  intro u hu
  obtain ⟨_, _, rfl⟩ := List.mem_map.1 hu
  rfl

/-! ### What the row's opening of an argument gives -/

theorem isRow_in {w : World} {k : IntKind} {a : Addr} {len cap : Nat} {zs : List Int} (hl : len ≤ cap) (hm : cap ≤ maxLen) (hz : zs.length = cap)
    (hcell : ∀ i, i < zs.length → w.cell? (a.add i) = some (.int k (zs.getD i 0))) : SlIn w w.heap.size (some a) len cap ((zs.take len).map (Value.int k)) := by
  refine ⟨fun e => (by cases e), hl, hm, by simp; omega, fun j u hu => ?_⟩
  have hj : j < len := by
    have := (List.getElem?_eq_some_iff.1 hu).1
    simp at this; omega
  have hc := hcell j (by omega)
  have h0 := hcell 0 (by omega)
  obtain ⟨b, off, spot⟩ := a
  have hs : spot = none := by simpa [Addr.add] using World.cell?_spot h0
  subst hs
  rw [Addr.add_lit] at hc
  refine ⟨b, off, rfl, World.block_lt_of_cell? w ⟨b, off + j, none⟩ hc, ?_⟩
  rw [hc, ← hu]
  simp [hj, show j < zs.length by omega]

theorem varsCons {H : Type} {enc : TypeId × Value → H} {P : Program} {w : World} {sp : Nat → Bool} {n : String} {ns : List String} {gs : List (DataW H)} (h : ∃ ps, DataW.TrodVars enc P w sp (n :: ns) gs ps) :
    ∃ y ys, gs = y :: ys ∧ ∃ ps, DataW.TrodVars enc P w sp ns ys ps := by
  obtain ⟨ps, h⟩ := h
  cases gs with
  | nil => exact h.elim
  | cons y ys =>
    obtain ⟨_, _, _, _, _, q, _, _, _, _, h, _⟩ := h
    exact ⟨y, ys, rfl, q, h⟩
theorem varsNil {H : Type} {enc : TypeId × Value → H} {P : Program} {w : World} {sp : Nat → Bool} {gs : List (DataW H)} (h : ∃ ps, DataW.TrodVars enc P w sp [] gs ps) : gs = [] := by
  obtain ⟨ps, h⟩ := h
  cases gs with
  | nil => rfl
  | cons y ys => exact h.elim

theorem u8_list {zs : List Int} (h : ∀ n ∈ zs, (Lit.int .u8 n).wf = true) : ∃ xs : List UInt8, zs.map (Value.int .u8) = xs.map bt := by
  refine ⟨zs.map fun n => UInt8.ofNat n.toNat, ?_⟩
  rw [List.map_map]
  refine List.map_congr_left fun n hn => ?_
  have hb := bounds_u8 (h n hn)
  simp only [Function.comp, bt]
  congr 1
  rw [UInt8.toNat_ofNat']
  omega

theorem strs_in {w : World} {a : Addr} {len cap : Nat} {ss : List ByteArray} (hl : len ≤ cap) (hm : cap ≤ maxLen) (hz : ss.length = cap)
    (hcell : ∀ i, i < ss.length → w.cell? (a.add i) = some (.string (ss.getD i ByteArray.empty))) : SlIn w w.heap.size (some a) len cap ((ss.take len).map Value.string) := by
  refine ⟨fun e => (by cases e), hl, hm, by simp; omega, fun j u hu => ?_⟩
  have hj : j < len := by
    have := (List.getElem?_eq_some_iff.1 hu).1
    simp at this; omega
  have hc := hcell j (by omega)
  have h0 := hcell 0 (by omega)
  obtain ⟨b, off, spot⟩ := a
  have hs : spot = none := by simpa [Addr.add] using World.cell?_spot h0
  subst hs
  rw [Addr.add_lit] at hc
  refine ⟨b, off, rfl, World.block_lt_of_cell? w ⟨b, off + j, none⟩ hc, ?_⟩
  rw [hc, ← hu]
  simp [hj, show j < ss.length by omega]

end Go.Proofs.YtdmmiiniikdapaaFmt
