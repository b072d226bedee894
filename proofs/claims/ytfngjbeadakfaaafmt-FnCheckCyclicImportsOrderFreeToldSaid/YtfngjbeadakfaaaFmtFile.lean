/- The source file that the law's compilers share. -/
import Derived.Test.YtfngjbeadakfaaaFmtChain
namespace Go.Proofs.YtfngjbeadakfaaaFmt
open Go.RowKit

/-- A new source file comes back, with its set. -/
def NewFile (w : World) (e : Ending) (w' : World) : Prop := ∃ fb sp, e = .returned (.pointer (some ⟨fb, 0, none⟩)) ∧ w'.cell? ⟨fb, 0, none⟩ = some (.pointer sp) ∧ fb < w'.heap.size ∧ Below w.heap.size w w'

/-- The memory with the set, the file's lines and the file. -/
def FW (w : World) : World :=
  ((w.alloc (.cells #[.int .i64 2, .slice none 0 0, .pointer none] 49)).alloc (.cells #[.int .i64 0] 3)).alloc (.cells #[.pointer (some ⟨w.heap.size, 0, none⟩), .string ⟨#[40, 109, 97, 105, 110, 41]⟩, .int .i64 1, .int .i64 0, .slice (some ⟨w.heap.size + 1, 0, none⟩) 1 1] 52)
theorem FW_size (w : World) : (FW w).heap.size = w.heap.size + 1 + 1 + 1 := by simp [FW]

theorem info_file : (Tryf.prog.info? 25).map (fun i => (i.zero, i.size, i.bytes)) = some (some (.pointer none), 1, 8) := by kernel_rfl

theorem oneF (w : World) : SlIn ((FW w).alloc (.cells #[.pointer (some ⟨w.heap.size + 1 + 1, 0, none⟩)] 25)) (w.heap.size + 1 + 1 + 1 + 1) (some ⟨w.heap.size + 1 + 1 + 1, 0, none⟩) 1 1 [.pointer (some ⟨w.heap.size + 1 + 1, 0, none⟩)] := by
  have h := SlIn.one (FW w) (.pointer (some ⟨w.heap.size + 1 + 1, 0, none⟩)) 25
  rw [FW_size] at h
  exact h

structure FileMem (w w3 : World) : Prop where
  set : Blk w3 w.heap.size #[.int .i64 2, .slice none 0 0, .pointer none] 49
  file : Blk w3 (w.heap.size + 1 + 1) #[.pointer (some ⟨w.heap.size, 0, none⟩), .string ⟨#[40, 109, 97, 105, 110, 41]⟩, .int .i64 1, .int .i64 0, .slice (some ⟨w.heap.size + 1, 0, none⟩) 1 1] 52
  bel : Below w.heap.size w w3

theorem fileMem {w w3 : World} (hg : ((FW w).alloc (.cells #[.pointer (some ⟨w.heap.size + 1 + 1, 0, none⟩)] 25)).grownBy w3 (Value.ownBlock (.slice none 0 0))) : FileMem w w3 := by
  have hs : Blk ((FW w).alloc (.cells #[.pointer (some ⟨w.heap.size + 1 + 1, 0, none⟩)] 25)) w.heap.size #[.int .i64 2, .slice none 0 0, .pointer none] 49 := (((Blk.new w _ _).alloc _).alloc _).alloc _
  have hf : Blk ((FW w).alloc (.cells #[.pointer (some ⟨w.heap.size + 1 + 1, 0, none⟩)] 25)) (w.heap.size + 1 + 1) #[.pointer (some ⟨w.heap.size, 0, none⟩), .string ⟨#[40, 109, 97, 105, 110, 41]⟩, .int .i64 1, .int .i64 0, .slice (some ⟨w.heap.size + 1, 0, none⟩) 1 1] 52 := by
    have h := Blk.new ((w.alloc (.cells #[.int .i64 2, .slice none 0 0, .pointer none] 49)).alloc (.cells #[.int .i64 0] 3)) #[.pointer (some ⟨w.heap.size, 0, none⟩), .string ⟨#[40, 109, 97, 105, 110, 41]⟩, .int .i64 1, .int .i64 0, .slice (some ⟨w.heap.size + 1, 0, none⟩) 1 1] 52
    rw [show ((w.alloc (.cells #[.int .i64 2, .slice none 0 0, .pointer none] 49)).alloc (.cells #[.int .i64 0] 3)).heap.size = w.heap.size + 1 + 1 by simp] at h
    exact h.alloc _
  refine ⟨hs.of_eq (hg.block _ hs.lt (by simp [Value.ownBlock])), hf.of_eq (hg.block _ hf.lt (by simp [Value.ownBlock])), ?_⟩
  have b : Below w.heap.size w ((FW w).alloc (.cells #[.pointer (some ⟨w.heap.size + 1 + 1, 0, none⟩)] 25)) := ((((Below.refl w.heap.size w).alloc (Nat.le_refl _) _).alloc (by simp) _).alloc (by simp; omega) _).alloc (by rw [show (((w.alloc (.cells #[.int .i64 2, .slice none 0 0, .pointer none] 49)).alloc (.cells #[.int .i64 0] 3)).alloc (.cells #[.pointer (some ⟨w.heap.size, 0, none⟩), .string ⟨#[40, 109, 97, 105, 110, 41]⟩, .int .i64 1, .int .i64 0, .slice (some ⟨w.heap.size + 1, 0, none⟩) 1 1] 52)).heap.size = w.heap.size + 1 + 1 + 1 from FW_size w]; omega) _
  exact b.grown hg b.size (fun k hk => by simp [Value.ownBlock] at hk)

set_option maxHeartbeats 1000000 in
theorem file_any (w : World) : Calls Tryf.prog 7 #[] w (NewFile w) := by
  obtain ⟨i, hi, hz0, hz1, hz2⟩ := info_parts info_file
  go_enter Tryf.func7, Tryf.ntmps7
  go_wp2_with (first | (go_at_call 11; go_in) | (go_at_call 12; go_in) | (at_builtin; refine wpList_append_in _ rfl _ _ 47 47 rfl w.heap.size 25 25 i (.pointer none) 8 Tryf.underlying47 Tryf.underlying47 hi hz0 hz1 hz2 rfl _ 0 [] rfl (World.ownsRow_nil _ _ _ _) (w.heap.size + 1 + 1 + 1 + 1) (some ⟨w.heap.size + 1 + 1 + 1, 0, none⟩) 1 1 [.pointer (some ⟨w.heap.size + 1 + 1, 0, none⟩)] rfl (oneF w) (by simp [Value.oneCell']) (by unfold maxLen; omega) (by omega) (by simp; omega) ?_; intro A3 c3 w3 hown hgrow; have M := hide (fileMem hgrow); have c1 := M.out.set.at (i := 1) (v := .slice none 0 0) rfl; have c2 := M.out.set.at (i := 2) (v := .pointer none) rfl; have f1 := M.out.set.free 1; have f2 := M.out.set.free 2; clear hown hgrow))
  go_ret
  refine ⟨w.heap.size + 1 + 1, some ⟨w.heap.size, 0, none⟩, rfl, ?_, ?_, ?_⟩
  · exact ((M.out.file.other (a := ⟨w.heap.size, 1, none⟩) (by show ¬ w.heap.size + 1 + 1 = w.heap.size; omega) _).other (a := ⟨w.heap.size, 2, none⟩) (by show ¬ w.heap.size + 1 + 1 = w.heap.size; omega) _).at rfl
  · have := M.out.file.lt
    simpa using this
  · exact (M.out.bel.setCell (p := ⟨w.heap.size, 1, none⟩) (Nat.le_refl _) _).setCell (p := ⟨w.heap.size, 2, none⟩) (Nat.le_refl _) _

/-- Some bool comes back. -/
def SomeBool (w : World) (e : Ending) (w' : World) : Prop := ∃ b : Bool, e = .returned (.bool b) ∧ w = w'
/-- Some number comes back. -/
def SomeInt (w : World) (e : Ending) (w' : World) : Prop := ∃ x : Int, e = .returned (.int .i64 x) ∧ w = w'

/-- The k-th element of a slice of strings. -/
theorem SlIn.str {w : World} {B : Nat} {A : Option Addr} {n c : Nat} {zs : List ByteArray} (h : SlIn w B A n c (zs.map Value.string)) {k : Nat} (hk : k < n) : ∃ b off x, A = some ⟨b, off, none⟩ ∧ b < B ∧ zs[k]? = some x ∧ w.cell? ⟨b, off + k, none⟩ = some (.string x) := by
  obtain ⟨b, off, u, e, hb, hx, hc⟩ := h.cell hk
  rw [List.getElem?_map] at hx
  cases hz : zs[k]? with
  | none => rw [hz] at hx; cases hx
  | some x =>
    rw [hz] at hx
    obtain rfl : Value.string x = u := Option.some.inj hx
    exact ⟨b, off, x, e, hb, rfl, hc⟩

set_option maxHeartbeats 1000000 in
theorem strs_any (A : Option Addr) (m d : Nat) (zs : List ByteArray) (w : World) (hm : m ≤ 9223372036854775807) (h : SlIn w w.heap.size A m d (zs.map Value.string)) :
    Calls Tryf.prog 6 #[.slice A m d] w (SomeInt w) := by
  have HS := hide h
  clear h
  go_enter Tryf.func6, Tryf.ntmps6
  go_wp2
  go_loop [3, 4] (fun t ix => ∃ (k : Nat) (x : Int), k ≤ m ∧ ix = .int .i64 k ∧ t = .int .i64 x) (fun _ ix => m - (intOf ix).toNat)
  case atStart => exact ⟨0, _, Nat.zero_le _, rfl, rfl⟩
  case round =>
    obtain ⟨k, x, hk, rfl, rfl⟩ := hrel
    by_cases hlt : k < m
    · obtain ⟨b, off, y, hA, hb, hx, hc⟩ := HS.out.str hlt
      subst hA
      clear hx
      go_wp2
      all_goals first
        | (go_ret; exact ⟨_, rfl, rfl⟩)
        | skip
      go_round
      case rel => exact ⟨k + 1, _, by omega, by go_num, rfl⟩
      case measure => simp [intOf]; omega
    · go_wp2
      go_ret
      exact ⟨_, rfl, rfl⟩
end Go.Proofs.YtfngjbeadakfaaaFmt
