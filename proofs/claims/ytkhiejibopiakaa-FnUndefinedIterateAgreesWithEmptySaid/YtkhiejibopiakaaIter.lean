/- The iterators that the law makes, and their Next. Conditions: an empty array, an empty map, an empty string. -/
import Derived.Test.YtkhiejibopiakaaProg
import Derived.Test.YtkhiejibopiakaaBlk
import Derived.Handy
import Derived.Outline
import Derived.WalkLawsBesides
import Derived.WalkSpells
import Derived.Deep.QuietTactic
import Derived.BigQuiet
import Derived.RegionTactic
import Derived.ChangeAlike
import Derived.Laws.IdiomRangeMap
namespace Go.Proofs.Ytkhiejibopiakaa
open Go.RowKit

/-- An interface value that points at a new block with the cells cs. -/
def NewIt (B : Nat) (T U : TypeId) (cs : Array Value) (w : World) (e : Ending) (w' : World) : Prop :=
  ∃ b, e = .returned (.iface T (.pointer (some ⟨b, 0, none⟩))) ∧ w.heap.size ≤ b ∧ Blk w' b cs U ∧ Below B w w'

set_option maxHeartbeats 1000000 in
theorem arr_iter (w : World) (b : Nat) (h : Blk w b #[.slice none 0 0] 33) : Calls Try.prog 5 #[.pointer (some ⟨b, 0, none⟩)] w (NewIt w.heap.size 45 47 #[.slice none 0 0, .int .i64 0, .int .i64 0] w) := by
  have c0 : w.cell? ⟨b, 0, none⟩ = some (.slice none 0 0) := h.at rfl
  have hl := h.lt
  clear h
  go_enter Try.func5, Try.ntmps5
  go_wp2
  go_region
  go_wp2
  go_ret
  refine ⟨w.heap.size, rfl, Nat.le_refl _, ?_, ?_⟩
  · exact (Blk.new w _ _).drew
  · go_grown

theorem next_empty (w : World) (ty bm : Nat) (hb : w.heap[bm]? = some (.map #[] 0)) :
    (Instr.next (.pointer (some ⟨w.heap.size, 0, none⟩)) false ty).run Try.prog (w.alloc (.mapIter (some bm) 0 #[] 0)) = .ok (.tuple #[.bool false]) (w.alloc (.mapIter (some bm) 0 #[] 0)) := by
  rcases run_next_map (P := Try.prog) w ty bm 0 0 #[] #[] 0 hb (fun x hx => by simp at hx) (Nat.le_refl _) with h | ⟨e, he, _⟩
  · exact h.2
  · simp [leftOf] at he

set_option maxHeartbeats 1000000 in
theorem map_iter (w : World) (b bm : Nat) (h : Blk w b #[.map (some bm)] 37) (hm : w.heap[bm]? = some (.map #[] 0)) : Calls Try.prog 6 #[.pointer (some ⟨b, 0, none⟩)] w (NewIt w.heap.size 49 51 #[.map (some bm), .slice none 0 0, .int .i64 0, .int .i64 0] w) := by
  have c0 : w.cell? ⟨b, 0, none⟩ = some (.map (some bm)) := h.at rfl
  have hl := h.lt
  clear h
  have hr := run_range_map (P := Try.prog) w 35 9 72 bm #[] 0 Try.underlying35 hm
  have hn := fun ty => next_empty w ty bm hm
  clear hm
  go_enter Try.func6, Try.ntmps6
  go_wp2
  refine wp_loop_rounds 1 ?_
  rw [rounds_succ]
  go_wp2
  go_ret
  refine ⟨w.heap.size + 1, by simp, by omega, ?_, ?_⟩
  · have := Blk.new (w.alloc (.mapIter (some bm) 0 #[] 0)) #[.map (some bm), .slice none 0 0, .int .i64 0, .int .i64 0] 51
    simpa using this
  · go_grown

theorem conv_empty (w : World) : ∃ c, (convert 9 39 (.string ⟨#[]⟩)).run Try.prog w = .ok (.slice (some ⟨w.heap.size, 0, none⟩) 0 c) ((w.alloc (.cells (Array.replicate c (.int .i32 0)) 21)).drew) := by
  refine ⟨grownCap w 0 0 21, ?_⟩
  have := run_runes_of_string (P := Try.prog) w 9 39 21 ⟨#[]⟩ Try.underlying9 Try.underlying39 Try.underlying21 (by show (0 : Nat) ≤ _; omega)
  rw [this]
  show Result.ok _ _ = _
  simp [Conv.runesFrom, ByteArray.size]
  rfl

set_option maxHeartbeats 1000000 in
theorem str_iter (w : World) (b : Nat) (h : Blk w b #[.string ⟨#[]⟩, .slice none 0 0] 41) : Calls Try.prog 7 #[.pointer (some ⟨b, 0, none⟩)] w (fun e w' => ∃ v, NewIt b 52 54 #[v, .int .i64 0, .int .i64 0] w e w') := by
  have c0 : w.cell? ⟨b, 0, none⟩ = some (.string ⟨#[]⟩) := h.at rfl
  have c1 : w.cell? ⟨b, 1, none⟩ = some (.slice none 0 0) := h.at rfl
  have f1 := h.free 1
  have hl := h.lt
  have HB := hide h
  clear h
  have heq := fun (w : World) (A : Option Addr) (n c : Nat) => Lib.run_eql_slice_nil (P := Try.prog) w 39 21 A n c 0 0 Try.underlying39
  obtain ⟨c, hcv⟩ := conv_empty w
  go_enter Try.func7, Try.ntmps7
  go_wp2
  go_region
  go_wp2
  go_ret
  refine ⟨.slice (some ⟨w.heap.size, 0, none⟩) 0 c, w.heap.size + 1, rfl, by omega, ?_, ?_⟩
  · have := Blk.new ((w.setCell ⟨b, 1, none⟩ (.slice (some ⟨w.heap.size, 0, none⟩) 0 c)).alloc (.cells (Array.replicate c (.int .i32 0)) 21)) #[.slice (some ⟨w.heap.size, 0, none⟩) 0 c, .int .i64 0, .int .i64 0] 54
    simp at this
    exact this.drew.drew
  · exact (((((Below.refl b w).setCell (Nat.le_refl _) _).alloc (by simp; omega) _).alloc (by simp; omega) _).drew).drew

set_option maxHeartbeats 1000000 in
theorem arr_next (w : World) (b : Nat) (v : Value) (j : Int) (h : Blk w b #[v, .int .i64 j, .int .i64 0] 47) (h0 : 0 ≤ j) (h1 : j ≤ 4096) : Calls Try.prog 62 #[.pointer (some ⟨b, 0, none⟩)] w (fun e w' => e = .returned (.bool false) ∧ ∃ q, w' = (w.setCell ⟨b, 1, none⟩ (.int .i64 (j + 1))).drewN q) := by
  have c1 : w.cell? ⟨b, 1, none⟩ = some (.int .i64 j) := h.at rfl
  have c2 : w.cell? ⟨b, 2, none⟩ = some (.int .i64 0) := h.at rfl
  have f1 := h.free 1
  have hd : decide (j + 1 ≤ 0) = false := by simp; omega
  clear h
  go_enter Try.func62, Try.ntmps62
  go_wp2
  go_region
  go_wp2
  go_ret
  exact ⟨by simp, 1, rfl⟩

set_option maxHeartbeats 1000000 in
theorem map_next (w : World) (b : Nat) (v u : Value) (j : Int) (h : Blk w b #[v, u, .int .i64 j, .int .i64 0] 51) (h0 : 0 ≤ j) (h1 : j ≤ 4096) : Calls Try.prog 70 #[.pointer (some ⟨b, 0, none⟩)] w (fun e w' => e = .returned (.bool false) ∧ ∃ q, w' = (w.setCell ⟨b, 2, none⟩ (.int .i64 (j + 1))).drewN q) := by
  have c1 : w.cell? ⟨b, 2, none⟩ = some (.int .i64 j) := h.at rfl
  have c2 : w.cell? ⟨b, 3, none⟩ = some (.int .i64 0) := h.at rfl
  have f1 := h.free 2
  have hd : decide (j + 1 ≤ 0) = false := by simp; omega
  clear h
  go_enter Try.func70, Try.ntmps70
  go_wp2
  go_region
  go_wp2
  go_ret
  exact ⟨by simp, 1, rfl⟩

set_option maxHeartbeats 1000000 in
theorem str_next (w : World) (b : Nat) (v : Value) (j : Int) (h : Blk w b #[v, .int .i64 j, .int .i64 0] 54) (h0 : 0 ≤ j) (h1 : j ≤ 4096) : Calls Try.prog 78 #[.pointer (some ⟨b, 0, none⟩)] w (fun e w' => e = .returned (.bool false) ∧ ∃ q, w' = (w.setCell ⟨b, 1, none⟩ (.int .i64 (j + 1))).drewN q) := by
  have c1 : w.cell? ⟨b, 1, none⟩ = some (.int .i64 j) := h.at rfl
  have c2 : w.cell? ⟨b, 2, none⟩ = some (.int .i64 0) := h.at rfl
  have f1 := h.free 1
  have hd : decide (j + 1 ≤ 0) = false := by simp; omega
  clear h
  go_enter Try.func78, Try.ntmps78
  go_wp2
  go_region
  go_wp2
  go_ret
  exact ⟨by simp, 1, rfl⟩
end Go.Proofs.Ytkhiejibopiakaa
