/- builtinSplice with three arguments and more, all cases, and the shim that calls it. Conditions: at most 2^16 elements and items; the sentinel's cell holds an interface value. -/
import Derived.Test.YtdfjbegifibldaaDoorSplice3
import Derived.Test.YtdfjbegifibldaaDoorSplice5
import Derived.Test.YtdfjbegifibldaaDoorShim2
namespace Go.Proofs.YtdfjbegifibldaaDoor
open Go.RowKit
attribute [local go_sem] ta_int_ok ta_arr_ok ta_arr

/-- How many elements go. -/
def dels (n st k : Nat) : Nat := if st + k ≤ n then k else n - st
theorem dels_le (n st k : Nat) (h : st ≤ n) : st + dels n st k ≤ n := by unfold dels; split <;> omega

theorem splice3_any (base B ab n c g ib jb st k : Nat) (Aa : Option Addr) (ca m : Nat) (vs iv : List Value) (zs ys : List Int) (w : World) (hblk : Blk w ab #[.slice (some ⟨g, 0, none⟩) n c] 36) (hown : w.ownsRow base 41 1 (.slice (some ⟨g, 0, none⟩) n c) n vs) (hobj : Objs w B vs zs) (hitm : Objs w B iv ys) (hbase : base ≤ w.heap.size) (hab : base ≤ ab)
    (hargs : SlIn w w.heap.size Aa (3 + m) ca (.iface 30 (.pointer (some ⟨ab, 0, none⟩)) :: .iface 37 (.pointer (some ⟨ib, 0, none⟩)) :: .iface 37 (.pointer (some ⟨jb, 0, none⟩)) :: iv)) (hint : Blk w ib #[.int .i64 (st : Int)] 39) (hcnt : Blk w jb #[.int .i64 (k : Int)] 39) (hn : n ≤ 65536) (hm : m ≤ 65536) (hst : st ≤ n) (hk : k ≤ 4611686018427387904) :
    Calls Tryd.prog 12 #[.slice Aa (3 + m) ca] w (SpliceOk base B ab (dels n st k) (st + (ys.length + (n - (st + dels n st k)))) ((zs.drop st).take (dels n st k)) (zs.take st ++ (ys ++ zs.drop (st + dels n st k))) w) := by
  by_cases h0 : m = 0
  · subst h0
    have hl := hargs.len
    obtain rfl : iv = [] := List.eq_nil_of_length_eq_zero (by simpa using hl)
    obtain rfl : ys = [] := List.eq_nil_of_length_eq_zero (by rw [← hitm.len]; rfl)
    by_cases hu : st + k ≤ n
    · have e : dels n st k = k := if_pos hu
      rw [e]
      exact splice3_none_un base B ab n c g ib jb st k Aa ca vs zs [] w hblk hown hobj rfl hbase hab hargs hint hcnt hn hst hk hu
    · have e : dels n st k = n - st := if_neg hu
      rw [e]
      refine (splice3_none_cl base B ab n c g ib jb st k Aa ca vs zs [] w hblk hown hobj rfl hbase hab hargs hint hcnt hn hst hk (by omega)).mono ?_
      rintro e w' ⟨db, he, hs⟩
      exact ⟨db, he, hs.cast rfl (by omega) rfl (by rw [show st + (n - st) = n by omega])⟩
  · by_cases hu : st + k ≤ n
    · have e : dels n st k = k := if_pos hu
      rw [e]
      exact splice3_some_un base B ab n c g ib jb st k Aa ca m vs iv zs ys w hblk hown hobj hitm hbase hab hargs hint hcnt hn hm hst hk (by omega) hu
    · have e : dels n st k = n - st := if_neg hu
      rw [e]
      refine (splice3_some_cl base B ab n c g ib jb st k Aa ca m vs iv zs ys w hblk hown hobj hitm hbase hab hargs hint hcnt hn hm hst hk (by omega) (by omega)).mono ?_
      rintro e w' ⟨db, he, hs⟩
      exact ⟨db, he, hs.cast rfl (by omega) rfl (by rw [show st + (n - st) = n by omega])⟩

set_option maxRecDepth 100000 in
set_option maxHeartbeats 2000000 in
theorem splice3_bad (ab n c g ib jb : Nat) (st k : Int) (te : TypeId) (pe : Value) (Aa : Option Addr) (ca m : Nat) (iv : List Value) (w : World) (hblk : Blk w ab #[.slice (some ⟨g, 0, none⟩) n c] 36) (hm : m ≤ 65536)
    (hargs : SlIn w w.heap.size Aa (3 + m) ca (.iface 30 (.pointer (some ⟨ab, 0, none⟩)) :: .iface 37 (.pointer (some ⟨ib, 0, none⟩)) :: .iface 37 (.pointer (some ⟨jb, 0, none⟩)) :: iv)) (hint : Blk w ib #[.int .i64 st] 39) (hcnt : Blk w jb #[.int .i64 k] 39) (hst : st < 0 ∨ (n : Int) < st ∨ k < 0) (hE : w.cell? ⟨1, 0, none⟩ = some (.iface te pe)) :
    Calls Tryd.prog 12 #[.slice Aa (3 + m) ca] w (Refused te pe w) := by
  have hcell := hblk.at (i := 0) (v := .slice (some ⟨g, 0, none⟩) n c) rfl
  obtain ⟨ba, oa, u, hAa, hba, hu, hcu⟩ := hargs.cell (k := 0) (by omega)
  subst hAa
  simp at hu
  subst hu
  rw [Nat.add_zero] at hcu
  obtain ⟨ba', oa', u', hAa', _, hu', hcu'⟩ := hargs.cell (k := 1) (by omega)
  simp only [Option.some.injEq, Addr.mk.injEq, and_true] at hAa'
  obtain ⟨rfl, rfl⟩ := hAa'
  simp at hu'
  subst hu'
  obtain ⟨ba', oa', u', hAa', _, hu', hcu2⟩ := hargs.cell (k := 2) (by omega)
  simp only [Option.some.injEq, Addr.mk.injEq, and_true] at hAa'
  obtain ⟨rfl, rfl⟩ := hAa'
  simp at hu'
  subst hu'
  have hi1 := hint.at (i := 0) (v := .int .i64 st) rfl
  have hi2 := hcnt.at (i := 0) (v := .int .i64 k) rfl
  clear hint hargs hblk hcnt
  by_cases h0 : st < 0
  · clear hst
    go_enter Tryd.func12, Tryd.ntmps12
    go_wp2_with fail
    go_quiet (fail)
    go_wp2
    go_ret2
    exact ⟨rfl, below_drewN (Below.refl _ _) _⟩
  · by_cases h1 : (n : Int) < st
    · clear hst
      go_enter Tryd.func12, Tryd.ntmps12
      go_wp2_with fail
      go_quiet (fail)
      go_wp2
      go_ret2
      exact ⟨rfl, below_drewN (Below.refl _ _) _⟩
    · have h2 : k < 0 := by omega
      clear hst
      go_enter Tryd.func12, Tryd.ntmps12
      go_wp2_with fail
      go_quiet (fail)
      go_wp2
      go_ret2
      exact ⟨rfl, below_drewN (Below.refl _ _) _⟩
end Go.Proofs.YtdfjbegifibldaaDoor
