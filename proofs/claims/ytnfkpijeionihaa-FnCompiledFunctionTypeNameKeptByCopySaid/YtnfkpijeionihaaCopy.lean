/- The contract of CompiledFunction.Copy: it hands back a compiled function in new memory; nothing that was there has turned. Condition: at most 2^40 instruction bytes. -/
import Derived.Test.YtnfkpijeionihaaProg
import Derived.Test.YtnfkpijeionihaaBase
import Derived.Test.YtnfkpijeionihaaClone
import Derived.Handy
import Derived.Deep.RegionHeld3
import Derived.WalkLawsBesides
import Derived.WalkSpells
namespace Go.Proofs.Ytnfkpijeionihaa
open Go.RowKit

theorem step_append_in {P : Program} (w : World) {ops : Array Oper} {o : Oper} {a : Act} {K : Act → World → Prop} {Q : Exit → Act → World → Prop} {F : Prop} (hgd : o.guard = none) (s x : Operand) (t u : TypeId)
    (ho : o.op = .call { callee := .builtin .append, args := #[s, x], argTypes := #[t, u] })
    (base : Nat) (e e' : TypeId) (i : TypeInfo) (z : Value) (bytes : Nat) (ht : P.underlying t = some (.slice e)) (hu : P.underlying u = some (.slice e')) (hi : P.info? e = some i) (hz : i.zero = some z)
    (hsize : i.size = 1) (hby : i.bytes = bytes) (hzs : z.cells.size = 1)
    (v : Value) (n : Nat) (xs : List Value) (hs : a.eval s = v) (hown : w.ownsRow base e 1 v n xs) (B : Nat) (A : Option Addr) (m c : Nat) (news : List Value) (hx : a.eval x = .slice A m c) (hin : SlIn w B A m c news) (h1 : ∀ u ∈ news, u.oneCell' = true)
    (h63 : n + m ≤ maxLen) (hbytes : (n + m) * bytes ≤ 140737488355328) (hbase : base ≤ w.heap.size)
    (h : ∀ A' c' w', w'.ownsRow base e 1 (.slice A' (n + m) c') (n + m) (xs ++ news) → w.grownBy w' v.ownBlock → K (a.put o.dst (.slice A' (n + m) c')) w') :
    if Region.wanted o (yielded ops a.tmps) = true then Oper.wp P o a w K Q else F := by
  have hw : Region.wanted o (yielded ops a.tmps) = true := by simp [Region.wanted, hgd]
  rw [if_pos hw]
  obtain ⟨v', w', hr, h2, h3⟩ := run_append_in (P := P) w base t u o.type e e' i z bytes ht hu hi hz hsize hby hzs v n xs hown B A m c news hin h1 h63 hbytes hbase
  obtain ⟨A', c', rfl⟩ := own_form h2
  unfold Oper.wp execOp
  simp only [ho, resolve, invoke, builtin, Sem.run_bind, Sem.run_pure, Result.andThen_ok, List.map_toArray, List.map_cons, List.map_nil, hs, hx, hr]
  exact h A' c' w' h2 h3

theorem step_append_nil {P : Program} (w : World) {ops : Array Oper} {o : Oper} {a : Act} {K : Act → World → Prop} {Q : Exit → Act → World → Prop} {F : Prop} (hgd : o.guard = none) (s x : Operand) (t : TypeId)
    (ho : o.op = .call { callee := .builtin .append, args := #[s, x], argTypes := #[t, t] })
    (base : Nat) (e : TypeId) (i : TypeInfo) (ht : P.underlying t = some (.slice e)) (hi : P.info? e = some i)
    (v : Value) (n : Nat) (xs : List Value) (hs : a.eval s = v) (hown : w.ownsRow base e 1 v n xs) (hx : a.eval x = .slice none 0 0) (h : K (a.put o.dst v) w) :
    if Region.wanted o (yielded ops a.tmps) = true then Oper.wp P o a w K Q else F := by
  have hw : Region.wanted o (yielded ops a.tmps) = true := by simp [Region.wanted, hgd]
  rw [if_pos hw]
  have hr := run_append_owned_none (P := P) w base t o.type e i 1 ht hi v n xs hown
  unfold Oper.wp execOp
  simp only [ho, resolve, invoke, builtin, Sem.run_bind, Sem.run_pure, Result.andThen_ok, List.map_toArray, List.map_cons, List.map_nil, hs, hx, hr]
  exact h

/-- An empty literal's slice owns nothing. -/
theorem own_empty {w : World} {B g : Nat} {e : TypeId} (hb : B ≤ g) (hg : w.heap[g]? = some (.cells #[] e (0, 0))) : w.ownsRow B e 1 (.slice (some ⟨g, 0, none⟩) 0 0) 0 [] :=
  ⟨by simp, .inr ⟨g, 0, #[], rfl, hb, hg, Nat.le_refl _, Nat.zero_le _, by simp, by simp⟩⟩

theorem own_new (w : World) (e : TypeId) : ((w.alloc (.cells #[] e)).drew).ownsRow w.heap.size e 1 (.slice (some ⟨w.heap.size, 0, none⟩) 0 0) 0 [] := own_empty (Nat.le_refl _) (heap_alloc_new w _)
theorem own_new2 (w : World) (e : TypeId) (o : Obj) : (((w.alloc (.cells #[] e)).alloc o).drew).ownsRow w.heap.size e 1 (.slice (some ⟨w.heap.size, 0, none⟩) 0 0) 0 [] :=
  own_empty (Nat.le_refl _) ((heap_alloc_old (w.alloc _) o (show w.heap.size < _ by simp)).trans (heap_alloc_new w _))
theorem own_new3 (w : World) (e : TypeId) (o : Obj) : (((w.alloc o).alloc (.cells #[] e)).drew).ownsRow w.heap.size e 1 (.slice (some ⟨w.heap.size + 1, 0, none⟩) 0 0) 0 [] :=
  own_empty (Nat.le_succ _) (by have := heap_alloc_new (w.alloc o) (.cells #[] e); rw [show (w.alloc o).heap.size = w.heap.size + 1 by simp] at this; exact this)
theorem own_late (w w1 : World) (e : TypeId) (h : w.heap.size ≤ w1.heap.size) : (w1.alloc (.cells #[] e)).ownsRow w.heap.size e 1 (.slice (some ⟨w1.heap.size, 0, none⟩) 0 0) 0 [] := own_empty h (heap_alloc_new w1 _)
theorem own_kept2 {w w1 : World} {e e' : TypeId} (hg : (((w.alloc (.cells #[] e)).alloc (.cells #[] e')).drew).grownBy w1 (Value.ownBlock (.slice (some ⟨w.heap.size + 1, 0, none⟩) 0 0))) : w1.ownsRow w.heap.size e 1 (.slice (some ⟨w.heap.size, 0, none⟩) 0 0) 0 [] :=
  (own_new2 w e _).kept hg (.inr (by simp [Value.ownBlock]))
theorem own_kept3 {w w1 : World} {e e' : TypeId} (hg : (((w.alloc (.cells #[] e')).alloc (.cells #[] e)).drew).grownBy w1 (Value.ownBlock (.slice (some ⟨w.heap.size, 0, none⟩) 0 0))) : w1.ownsRow w.heap.size e 1 (.slice (some ⟨w.heap.size + 1, 0, none⟩) 0 0) 0 [] :=
  (own_new3 w e _).kept hg (.inr (by simp [Value.ownBlock]))
theorem own_at {w : World} {g : Nat} {k : Nat} {n c : Nat} (hk : Value.ownBlock (.slice (some ⟨g, 0, none⟩) n c) = some k) (h : w.heap.size ≤ g) : w.heap.size ≤ k := by
  simp [Value.ownBlock] at hk; omega

section
variable {w W : World} {p : Nat} {v0 v1 v2 v3 v4 v5 : Value} {T : TypeId}
theorem cf_keep (hp : w.heap[p]? = some (.cells #[v0, v1, v2, v3, v4, v5] T (0, 0))) (hb : Below w.heap.size w W) :
    W.cell? ⟨p, 0, none⟩ = some v0 ∧ W.cell? ⟨p, 1, none⟩ = some v1 ∧ W.cell? ⟨p, 2, none⟩ = some v2 ∧ W.cell? ⟨p, 3, none⟩ = some v3 ∧ W.cell? ⟨p, 5, none⟩ = some v5 ∧ Below w.heap.size w W := by
  have hlt : p < w.heap.size := (Array.getElem?_eq_some_iff.1 hp).1
  have hW := (hb.block p hlt).trans hp
  refine ⟨?_, ?_, ?_, ?_, ?_, hb⟩ <;> simp [World.cell?, hW]
end

theorem info_ptr : (Try.prog.info? 53).map (fun i => (i.zero, i.size, i.bytes)) = some (some (.pointer none), 1, 8) := by kernel_rfl

set_option maxRecDepth 100000 in
set_option maxHeartbeats 3200000 in
theorem copy_any (p : Nat) (A : Option Addr) (n c : Nat) (zs : List UInt8) (nl np : Int) (va : Bool) (w : World)
    (hp : w.heap[p]? = some (.cells #[.slice A n c, .int .i64 nl, .int .i64 np, .bool va, .map none, .slice none 0 0] 31 (0, 0))) (hS : SlIn w w.heap.size A n c (zs.map bt)) (hn : n ≤ 1099511627776) :
    Calls Try.prog 6 #[.pointer (some ⟨p, 0, none⟩)] w fun e w' => (∃ b, e = .returned (.iface 25 (.pointer (some ⟨b, 0, none⟩)))) ∧ Below w.heap.size w w' := by
  obtain ⟨i, hi, hz0, hz1, hz2⟩ := info_parts info_u8
  obtain ⟨j, hj, hy0, hy1, hy2⟩ := info_parts info_ptr
  have HP := hide hp
  have HS := hide hS
  clear hp hS
  go_enter Try.func6, Try.ntmps6
  go_wp2_with fail
  go_region_held3 (fun W => W.cell? ⟨p, 0, none⟩ = some (.slice A n c) ∧ W.cell? ⟨p, 1, none⟩ = some (.int .i64 nl) ∧ W.cell? ⟨p, 2, none⟩ = some (.int .i64 np) ∧ W.cell? ⟨p, 3, none⟩ = some (.bool va) ∧ W.cell? ⟨p, 5, none⟩ = some (.slice none 0 0) ∧ Below w.heap.size w W)
    (first
      | exact cf_keep HP.out (Below.refl _ _).drew
      | (go_split_ands; refine cf_keep HP.out ?_; refine Below.alloc ‹_› ?_ _; exact Below.size ‹_›)
      | (go_split_ands; exact cf_keep HP.out ‹_›)
      | (go_split_ands; refine cf_keep HP.out ?_; refine Below.grown ‹_› hgrow1 (Below.size ‹_›) (fun k hk => own_at hk ?_); first | exact Nat.le_refl _ | exact Nat.le_succ _))
    ((first
      | (refine step_append_nil _ (by rfl) (.tmp 21) (.tmp 25) 29 (by rfl) w.heap.size 53 j Try.underlying29 hj _ 0 [] (by rfl) (by first | exact own_new w _ | exact own_new2 w _ _ | exact own_new3 w _ _ | exact own_kept2 hgrow1 | exact own_kept3 hgrow1 | exact own_late w w1 _ hs1) (by rfl) ?_)
      | (refine step_append_in _ (by rfl) (.tmp 3) (.tmp 7) 22 22 (by rfl) w.heap.size 5 5 i (.int .u8 0) 1 Try.underlying22 Try.underlying22 hi hz0 hz1 hz2 rfl _ 0 [] (by rfl) (by first | exact own_new w _ | exact own_new2 w _ _ | exact own_new3 w _ _) w.heap.size A n c (zs.map bt) (by rfl) (by go_split_ands; exact HS.out.below ‹_› (Nat.le_refl _)) (bts_one zs) (by unfold maxLen; omega) (by omega) (by go_split_ands; exact Below.size ‹_›) ?_; intro A1 c1 w1 hown1 hgrow1; have hs1 : w.heap.size ≤ w1.heap.size := Nat.le_trans (by go_split_ands; exact Below.size ‹_›) hgrow1.size; have hbw : Below w.heap.size w w1 := (by go_split_ands; refine Below.grown ‹_› hgrow1 (Below.size ‹_›) (fun k hk => own_at hk ?_); first | exact Nat.le_refl _ | exact Nat.le_succ _))))
  all_goals go_wp2
  all_goals go_ret
  all_goals refine ⟨⟨_, rfl⟩, ?_⟩
  all_goals first
    | exact hbw.alloc hs1 _
    | exact (hbw.alloc hs1 _).alloc (Nat.le_trans hs1 (by simp)) _
end Go.Proofs.Ytnfkpijeionihaa
