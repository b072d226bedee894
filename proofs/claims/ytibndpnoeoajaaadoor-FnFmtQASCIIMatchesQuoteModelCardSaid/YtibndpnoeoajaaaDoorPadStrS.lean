/- formatter.padString: behind the call the buffer owns what it owned and, behind that, the string in its field. Conditions: the formatter and its buffer are the caller's own; lengths of at most 2^22, a width of at most 2^16. -/
import Derived.Test.YtibndpnoeoajaaaDoorPadS
import Derived.Test.YtibndpnoeoajaaaDoorWriteS
namespace Go.Proofs.YtibndpnoeoajaaaDoor
open Go.RowKit

set_option maxHeartbeats 2000000 in
theorem padString_any (fb pb base n : Nat) (F : Array Value) (xs : List Value) (s : ByteArray) (wp mi z : Bool) (wd : Int) (w : World) (h : Fm w fb pb base n F xs) (h1 : F[1]? = some (.bool wp)) (h3 : F[3]? = some (.bool mi)) (h7 : F[7]? = some (.bool z)) (h13 : F[13]? = some (.int .i64 wd))
    (hM : w.cell? ⟨0, 0, none⟩ = some (.int .i64 2147483647)) (h0 : 0 < base) (hp0 : ¬ 0 = pb) (hn : n ≤ 1048576) (hs : s.size ≤ 5242880) (hw0 : -65536 ≤ wd) (hw1 : wd ≤ 65536) (hone : ∀ v ∈ xs, v.oneCell' = true) :
    Calls Tryd.prog 13 #[.pointer (some ⟨fb, 0, none⟩), .string s] w (Padded fb pb base (n + (room wp wd (Lib.runeCount s) + s.size)) F (xs ++ inField mi z (room wp wd (Lib.runeCount s)) (s.data.toList.map bt)) w) := by
  have f0 := h.cell h.ptr
  have f1 := h.cell h1
  have f3 := h.cell h3
  have f13 := h.cell h13
  have FM := hide h
  have HONE := hide hone
  clear h hone
  by_cases hplain : wp = false ∨ wd = 0
  · have e : room wp wd (Lib.runeCount s) = 0 := by
      unfold room
      rcases hplain with h | h <;> simp [h]
    rw [e, inField_zero, Nat.zero_add]
    obtain ⟨A, c, hbox, hown⟩ := FM.out.holds
    have HX := hide hbox
    have HO := hide hown
    clear hbox hown
    have hmp : n + s.size ≤ 2147483647 := by omega
    cases wp
    · go_enter Tryd.func13, Tryd.ntmps13
      go_wp2_with fail
      refine (writeString_any pb base A n c xs s w HX.out HO.out FM.out.hb hM hmp).mono ?_
      rintro e w4 ⟨rfl, hh4, ho4⟩
      have Q := hide (FM.out.wrote HX.out HO.out hh4 ho4)
      clear hh4 ho4
      go_wp2
      go_end0
      exact ⟨rfl, Q.out⟩
    · obtain rfl : wd = 0 := by simpa using hplain
      go_enter Tryd.func13, Tryd.ntmps13
      go_wp2_with fail
      refine (writeString_any pb base A n c xs s w HX.out HO.out FM.out.hb hM hmp).mono ?_
      rintro e w4 ⟨rfl, hh4, ho4⟩
      have Q := hide (FM.out.wrote HX.out HO.out hh4 ho4)
      clear hh4 ho4
      go_wp2
      go_end0
      exact ⟨rfl, Q.out⟩
  · obtain rfl : wp = true := by cases wp <;> simp_all
    have hwz : ¬ wd = 0 := by omega
    have e : room true wd (Lib.runeCount s) = (wd - (Lib.runeCount s : Int)).toNat := by simp [room, hwz]
    rw [e]
    have hrc := Lib.runeCount_le s
    have d13 : (wd == 0) = false := by simp [hwz]
    go_enter Tryd.func13, Tryd.ntmps13
    go_wp2_with fail
    have fi : ∀ pos, (w.iter s pos).cell? ⟨fb, 13, none⟩ = some (.int .i64 wd) := fun pos => (FM.out.below (below_iter w s pos) (Nat.le_refl _)).cell h13
    have fo : ∀ o, (w.alloc o).cell? ⟨fb, 13, none⟩ = some (.int .i64 wd) := fun o => (FM.out.below ((Below.refl _ _).alloc (Nat.le_refl _) o) (Nat.le_refl _)).cell h13
    have hlt : fb < w.heap.size := (Array.getElem?_eq_some_iff.1 FM.out.fm).1
    go_region_with (first | (go_at_call 19; refine (Tryd.utf8_RuneCountInString s _ (by omega)).mono ?_; rintro e w' ⟨rfl, pos, hw'⟩; have BI : Hid (Below w.heap.size w w') := (by subst hw'; first | exact below_iter w s pos | exact ((Below.refl w.heap.size w).drew).alloc (Nat.le_refl _) _ | exact (below_drewN (Below.refl w.heap.size w) _).alloc (Nat.le_refl _) _); have f2 := (FM.out.below BI.out (Nat.le_refl _)).cell h13; clear hw'))
    all_goals
      clear fi fo f2 f1 f13 d13
      have FM1 := hide (FM.out.below BI.out (Nat.le_refl _))
      have f31 := FM1.out.cell h3
      have f01 := FM1.out.cell FM1.out.ptr
      have BB : Hid (Safe base pb w w') := Safe.of (BI.out.mono FM.out.hb)
      clear f0 f3
      cases mi
      · go_wp2_with fail
        refine (padding_any fb pb base n F xs (wd - (Lib.runeCount s : Int)) z _ (by first | exact FM1.out | exact FM1.out.below ((Below.refl _ _).drew) (Nat.le_refl _) | exact FM1.out.below (below_drewN (Below.refl _ _) _) (Nat.le_refl _)) h7 (by first | exact cellS hM BB.out h0 hp0 | exact cellS hM BB.out.drew h0 hp0 | exact cellS hM (BB.out.drewN _) h0 hp0) (by omega) (by omega) (by omega) HONE.out).mono ?_
        rintro e w3 ⟨rfl, fm3, b3⟩
        have B3 : Hid (Safe base pb w w3) := by first | exact BB.out.trans b3 | exact BB.out.drew.trans b3 | exact (BB.out.drewN _).trans b3
        have FM3 := hide fm3
        have f03 := fm3.cell fm3.ptr
        obtain ⟨A, c, hbox, hown⟩ := fm3.holds
        have HX := hide hbox
        have HO := hide hown
        clear fm3 b3 hbox hown
        go_wp2_with fail
        refine (writeString_any pb base A _ c _ s w3 HX.out HO.out FM3.out.hb (cellS hM B3.out h0 hp0) (by omega)).mono ?_
        rintro e w4 ⟨rfl, hh4, ho4⟩
        have Q := hide (FM3.out.wrote HX.out HO.out hh4 ho4)
        clear hh4 ho4
        go_wp2
        go_end0
        refine ⟨rfl, ?_, B3.out.trans Q.out.2⟩
        have q1 := Q.out.1
        rw [List.append_assoc, Nat.add_assoc] at q1
        exact q1
      · obtain ⟨A, c, hbox, hown⟩ := FM1.out.holds
        have HX := hide hbox
        have HO := hide hown
        clear hbox hown
        go_wp2_with fail
        refine (writeString_any pb base A n c xs s _ (by first | exact HX.out) (by first | exact HO.out) (by first | exact FM1.out.hb) (by first | exact cellS hM BB.out h0 hp0 | exact cellS hM BB.out.drew h0 hp0 | exact cellS hM (BB.out.drewN _) h0 hp0) (by omega)).mono ?_
        rintro e w3 ⟨rfl, hh4, ho4⟩
        have Q : Hid (Fm w3 fb pb base (n + s.size) F (xs ++ s.data.toList.map bt) ∧ Safe base pb w w3) := by
          first
          | exact ⟨(FM1.out.wrote HX.out HO.out hh4 ho4).1, BB.out.trans (FM1.out.wrote HX.out HO.out hh4 ho4).2⟩
          | exact (fun F2 => (⟨(Fm.wrote F2 HX.out HO.out hh4 ho4).1, BB.out.drew.trans (Fm.wrote F2 HX.out HO.out hh4 ho4).2⟩ : _ ∧ _)) (FM1.out.below ((Below.refl _ _).drew) (Nat.le_refl _))
        clear hh4 ho4
        have f03 := Q.out.1.cell Q.out.1.ptr
        go_wp2_with fail
        refine (padding_any fb pb base (n + s.size) F _ (wd - (Lib.runeCount s : Int)) z w3 Q.out.1 h7 (cellS hM Q.out.2 h0 hp0) (by omega) (by omega) (by omega) (fun v hv => by
          rcases List.mem_append.1 hv with h | h
          · exact HONE.out v h
          · exact bts_one _ v h)).mono ?_
        rintro e w4 ⟨rfl, fm4, b4⟩
        have Q4 := hide fm4
        have B4 := hide b4
        clear fm4 b4
        go_wp2
        go_end0
        refine ⟨rfl, ?_, Q.out.2.trans B4.out⟩
        have q1 := Q4.out
        rw [List.append_assoc, Nat.add_assoc, Nat.add_comm s.size] at q1
        exact q1
end Go.Proofs.YtibndpnoeoajaaaDoor
