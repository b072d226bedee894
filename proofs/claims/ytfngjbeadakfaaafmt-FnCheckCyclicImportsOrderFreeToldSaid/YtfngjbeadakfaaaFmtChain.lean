/- A chain of nested compilers in memory, and the check for cyclic imports along it. -/
import Derived.Test.YtfngjbeadakfaaaFmtErr
namespace Go.Proofs.YtfngjbeadakfaaaFmt
open Go.RowKit Go.Extern.Stop Go.Stop Go.Extern

/-- A compiler's block: its file, its parent, its module path. -/
structure Node (w : World) (fb b : Nat) (par : Value) (s : ByteArray) : Prop where
  file : w.cell? ⟨b, 0, none⟩ = some (.pointer (some ⟨fb, 0, none⟩))
  parent : w.cell? ⟨b, 1, none⟩ = some par
  path : w.cell? ⟨b, 2, none⟩ = some (.string s)
  lt : b < w.heap.size

/-- The chain from a compiler up to the root, with its module paths. -/
inductive Chain (w : World) (fb : Nat) : Nat → List ByteArray → Prop
  | root {b : Nat} {s : ByteArray} (h : Node w fb b (.pointer none) s) : Chain w fb b [s]
  | child {b b' : Nat} {s : ByteArray} {l : List ByteArray} (h : Node w fb b (.pointer (some ⟨b', 0, none⟩)) s) (t : Chain w fb b' l) : Chain w fb b (s :: l)

theorem Node.below {w w' : World} {fb b : Nat} {par : Value} {s : ByteArray} (h : Node w fb b par s) (hb : Below w.heap.size w w') : Node w' fb b par s :=
  ⟨(hb.cell (p := ⟨b, 0, none⟩) h.lt).trans h.file, (hb.cell (p := ⟨b, 1, none⟩) h.lt).trans h.parent, (hb.cell (p := ⟨b, 2, none⟩) h.lt).trans h.path, Nat.lt_of_lt_of_le h.lt hb.size⟩
theorem Chain.keep {w w' : World} {fb b : Nat} {l : List ByteArray} (h : Chain w fb b l) (hb : Below w.heap.size w w') : Chain w' fb b l := by
  induction h with
  | root h => exact .root (h.below hb)
  | child h _ ih => exact .child (h.below hb) ih

set_option maxHeartbeats 2000000 in
theorem check_hit (F : Interp) (fb : Nat) (sp : Option Addr) (p : ByteArray) (w : World) (hF : F.answers w.tape) (hfc : w.cell? ⟨fb, 0, none⟩ = some (.pointer sp)) (hfl : fb < w.heap.size) {b : Nat} {l : List ByteArray} (h : Chain w fb b l) :
    (l.any fun s => s.toList == p.toList) = true → Calls Tryf.prog 13 #[.pointer (some ⟨b, 0, none⟩), .nilIface, .string p] w (SomeErr w) := by
  have errHit : ∀ {b : Nat} {par : Value} {s : ByteArray}, Node w fb b par s → (s.toList == p.toList) = true → Calls Tryf.prog 13 #[.pointer (some ⟨b, 0, none⟩), .nilIface, .string p] w (SomeErr w) := by
    intro b par s hn hs
    have h0 := hn.file
    have h2 := hn.path
    have hl := hn.lt
    clear hn
    go_enter Tryf.func13, Tryf.ntmps13
    go_wp2_with fail
    refine (errorf_x F b fb sp p w.heap.size _ (by exact hF) ?_ ?_ ?_).mono ?_
    · go_simp
    · go_simp
    · go_simp
    rintro e w' ⟨x, rfl, hb⟩
    go_wp2_with fail
    go_ret
    exact ⟨x, rfl, ((Below.refl w.heap.size w).alloc (Nat.le_refl _) _).trans (hb.mono (by simp))⟩
  induction h with
  | root h =>
    intro ha
    exact errHit h (by simpa using ha)
  | @child b b' s l h t ih =>
    intro ha
    cases hs : (s.toList == p.toList) with
    | true => exact errHit h hs
    | false =>
      have ha' : (l.any fun s => s.toList == p.toList) = true := by simpa [hs] using ha
      have hr := ih ha'
      have HR := hide hr
      have h1 := h.parent
      have h2 := h.path
      clear hr ih errHit ha ha' h t
      go_enter Tryf.func13, Tryf.ntmps13
      go_wp2_with fail
      refine HR.out.mono ?_
      rintro e w' ⟨x, rfl, hb⟩
      go_wp2_with fail
      go_ret
      exact ⟨x, rfl, hb⟩

set_option maxHeartbeats 2000000 in
theorem check_miss (fb : Nat) (p : ByteArray) (w : World) {b : Nat} {l : List ByteArray} (h : Chain w fb b l) :
    (l.any fun s => s.toList == p.toList) = false → Calls Tryf.prog 13 #[.pointer (some ⟨b, 0, none⟩), .nilIface, .string p] w fun e w' => e = .returned .nilIface ∧ w = w' := by
  induction h with
  | root h =>
    intro ha
    rename_i s
    have hs : (s.toList == p.toList) = false := by simpa using ha
    have h1 := h.parent
    have h2 := h.path
    clear h ha
    go_enter Tryf.func13, Tryf.ntmps13
    go_wp2_with fail
    go_ret
    exact ⟨rfl, rfl⟩
  | @child b b' s l h t ih =>
    intro ha
    have hs : (s.toList == p.toList) = false := by simp at ha; simpa using ha.1
    have ha' : (l.any fun s => s.toList == p.toList) = false := by simp at ha; simpa using ha.2
    have HR := hide (ih ha')
    have h1 := h.parent
    have h2 := h.path
    clear ih ha ha' h t
    go_enter Tryf.func13, Tryf.ntmps13
    go_wp2_with fail
    refine HR.out.mono ?_
    rintro e w' ⟨rfl, rfl⟩
    go_wp2_with fail
    go_ret
    exact ⟨rfl, rfl⟩

/-- A new compiler comes back. -/
def NewNode (fb : Nat) (par : Option Addr) (s : ByteArray) (w : World) (e : Ending) (w' : World) : Prop := ∃ b, e = .returned (.pointer (some ⟨b, 0, none⟩)) ∧ Node w' fb b (.pointer par) s ∧ Below w.heap.size w w'

set_option maxHeartbeats 1000000 in
theorem node_any (fb : Nat) (par : Option Addr) (s : ByteArray) (w : World) :
    Calls Tryf.prog 8 #[.pointer par, .string s, .pointer (some ⟨fb, 0, none⟩)] w (NewNode fb par s w) := by
  have hmm := @run_makeMap Tryf.prog
  go_enter Tryf.func8, Tryf.ntmps8
  go_wp2
  go_ret
  refine ⟨w.heap.size + 1, rfl, ⟨?_, ?_, ?_, ?_⟩, ?_⟩
  · go_simp
  · go_simp
  · go_simp
  · simp
  · go_grown
end Go.Proofs.YtfngjbeadakfaaaFmt
