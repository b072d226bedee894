/- formatter.pad: behind the call the buffer owns what it owned and, behind that, the bytes in their field. Conditions: the formatter and its buffer are the caller's own, the bytes stay where the padding writes nothing; lengths of at most 2^22, a width of at most 2^16. -/
import Derived.Test.YtibndpnoeoajaaaDoorPaddingS
import Derived.Test.YtibndpnoeoajaaaDoorWriteP
import Derived.Test.YtibndpnoeoajaaaDoorShelfR
import Derived.Lib.RuneCount
import Derived.RegionTactic
import Derived.WalkSmall
namespace Go.Proofs.YtibndpnoeoajaaaDoor
open Go.RowKit

/-- A text in its field: on the left or on the right of k padding bytes. -/
def inField (mi z : Bool) (k : Nat) (l : List Value) : List Value := if mi then l ++ padL z k else padL z k ++ l
/-- How many padding bytes. -/
def room (wp : Bool) (wd : Int) (r : Nat) : Nat := if wp && wd != 0 then (wd - r).toNat else 0
theorem inField_zero (mi z : Bool) (l : List Value) : inField mi z 0 l = l := by cases mi <;> simp [inField, padL]
theorem padL_len (z : Bool) (k : Nat) : (padL z k).length = k := by simp [padL]

theorem below_iter (w : World) (s : ByteArray) (pos : Nat) : Below w.heap.size w (w.iter s pos) :=
  (Below.refl _ _).alloc (Nat.le_refl _) _

/-- What utf8.RuneCount answers. -/
theorem rc_any (A' : Option Addr) (m d : Nat) (ys : List UInt8) (w : World) {B : Nat} (hS : SlIn w B A' m d (ys.map bt)) (hA : A' = none ∨ ∃ b off, A' = some ⟨b, off, none⟩) (hm : m ≤ 5242880) :
    Calls Tryd.prog 22 #[.slice A' m d] w fun e w' => e = .returned (.int .i64 (Lib.runeCount ⟨ys.toArray⟩)) ∧ (w' = w ∨ ∃ t pos, w' = w.iter t pos) := by
  rcases hA with rfl | ⟨b, off, rfl⟩
  · obtain ⟨rfl, rfl⟩ := hS.isNil rfl
    obtain rfl : ys = [] := List.eq_nil_of_length_eq_zero hS.size
    refine (Tryd.utf8_RuneCount_nil w).mono ?_
    rintro e w' ⟨rfl, rfl⟩
    exact ⟨rfl, .inl rfl⟩
  · have hz : (⟨ys.toArray⟩ : ByteArray).size = m := by
      show ys.toArray.size = m
      simpa using hS.size
    have h := Tryd.utf8_RuneCount ⟨ys.toArray⟩ b off d w (by rw [hz]; exact hS.le) (fun j hj => by
      rw [hz] at hj
      obtain ⟨b', off', x, e, _, hx, hc⟩ := hS.byte hj
      simp only [Option.some.injEq, Addr.mk.injEq, and_true] at e
      obtain ⟨rfl, rfl⟩ := e
      rw [hc]
      have hl : j < ys.length := (List.getElem?_eq_some_iff.1 hx).1
      have : (⟨ys.toArray⟩ : ByteArray).get! j = x := by
        show ys.toArray[j]! = x
        simp [hl, (List.getElem?_eq_some_iff.1 hx).2]
      rw [this]) (by rw [hz]; omega)
    rw [hz] at h
    exact h

set_option maxHeartbeats 2000000 in
theorem pad_any (fb pb base n : Nat) (F : Array Value) (xs : List Value) (A' : Option Addr) (m d : Nat) (ys : List UInt8) (wp mi z : Bool) (wd : Int) (w : World) (h : Fm w fb pb base n F xs) (h1 : F[1]? = some (.bool wp)) (h3 : F[3]? = some (.bool mi)) (h7 : F[7]? = some (.bool z)) (h13 : F[13]? = some (.int .i64 wd))
    (hM : w.cell? ⟨0, 0, none⟩ = some (.int .i64 2147483647)) (h0 : 0 < base) (hp0 : ¬ 0 = pb) (hn : n ≤ 1048576) (hS : ∀ w', Safe base pb w w' → w'.heap[fb]? = some (.cells F 35 (0, 0)) → SlIn w' w'.heap.size A' m d (ys.map bt)) (hA : A' = none ∨ ∃ b off, A' = some ⟨b, off, none⟩) (hs : m ≤ 5242880) (hw0 : -65536 ≤ wd) (hw1 : wd ≤ 65536) (hone : ∀ v ∈ xs, v.oneCell' = true) :
    Calls Tryd.prog 14 #[.pointer (some ⟨fb, 0, none⟩), .slice A' m d] w (Padded fb pb base (n + (room wp wd (Lib.runeCount ⟨ys.toArray⟩) + m)) F (xs ++ inField mi z (room wp wd (Lib.runeCount ⟨ys.toArray⟩)) (ys.map bt)) w) := by
  have f0 := h.cell h.ptr
  have f1 := h.cell h1
  have f3 := h.cell h3
  have f13 := h.cell h13
  have FM := hide h
  have HONE := hide hone
  have HS := hide hS
  have HS0 := hide (hS w (Safe.refl _ _ _) h.fm)
  have HA := hide hA
  clear h hone hS hA
  by_cases hplain : wp = false ∨ wd = 0
  · have e : room wp wd (Lib.runeCount ⟨ys.toArray⟩) = 0 := by
      unfold room
      rcases hplain with h | h <;> simp [h]
    rw [e, inField_zero, Nat.zero_add]
    obtain ⟨A, c, hbox, hown⟩ := FM.out.holds
    have HX := hide hbox
    have HO := hide hown
    clear hbox hown
    have hmp : n + m ≤ 2147483647 := by omega
    cases wp
    · go_enter Tryd.func14, Tryd.ntmps14
      go_wp2_with fail
      refine (write_any pb base A A' n c m d xs ys w HX.out HO.out FM.out.hb HS0.out hM hmp).mono ?_
      rintro e w4 ⟨rfl, hh4, ho4⟩
      have Q := hide (FM.out.wrote HX.out HO.out hh4 ho4)
      clear hh4 ho4
      go_wp2
      go_end0
      exact ⟨rfl, Q.out⟩
    · obtain rfl : wd = 0 := by simpa using hplain
      go_enter Tryd.func14, Tryd.ntmps14
      go_wp2_with fail
      refine (write_any pb base A A' n c m d xs ys w HX.out HO.out FM.out.hb HS0.out hM hmp).mono ?_
      rintro e w4 ⟨rfl, hh4, ho4⟩
      have Q := hide (FM.out.wrote HX.out HO.out hh4 ho4)
      clear hh4 ho4
      go_wp2
      go_end0
      exact ⟨rfl, Q.out⟩
  · obtain rfl : wp = true := by cases wp <;> simp_all
    have hwz : ¬ wd = 0 := by omega
    have e : room true wd (Lib.runeCount ⟨ys.toArray⟩) = (wd - (Lib.runeCount ⟨ys.toArray⟩ : Int)).toNat := by simp [room, hwz]
    rw [e]
    have hrc : Lib.runeCount ⟨ys.toArray⟩ ≤ m := by
      have h1 := Lib.runeCount_le ⟨ys.toArray⟩
      have h2 : (⟨ys.toArray⟩ : ByteArray).size = m := by
        show ys.toArray.size = m
        simpa using HS0.out.size
      omega
    have d13 : (wd == 0) = false := by simp [hwz]
    go_enter Tryd.func14, Tryd.ntmps14
    go_wp2_with fail
    have hlt : fb < w.heap.size := (Array.getElem?_eq_some_iff.1 FM.out.fm).1
    go_region_with (first | (go_at_call 22; refine (rc_any A' m d ys _ (by first | exact HS0.out | exact HS0.out.drew | exact HS0.out.drewN _) HA.out hs).mono ?_; rintro e w' ⟨rfl, hw'⟩; have BI : Hid (Below w.heap.size w w') := (by rcases hw' with hw' | ⟨t, pos, hw'⟩; (subst hw'; first | exact Below.refl _ _ | exact (Below.refl _ _).drew | exact below_drewN (Below.refl _ _) _); (subst hw'; first | exact below_iter w t pos | exact ((Below.refl w.heap.size w).drew).alloc (Nat.le_refl _) _ | exact (below_drewN (Below.refl w.heap.size w) _).alloc (Nat.le_refl _) _)); have f2 := (FM.out.below BI.out (Nat.le_refl _)).cell h13; clear hw'))
    all_goals
      clear f2 f1 f13 d13
      have FM1 := hide (FM.out.below BI.out (Nat.le_refl _))
      have f31 := FM1.out.cell h3
      have f01 := FM1.out.cell FM1.out.ptr
      have BB : Hid (Safe base pb w w') := Safe.of (BI.out.mono FM.out.hb)
      clear f0 f3
      cases mi
      · go_wp2_with fail
        refine (padding_any fb pb base n F xs (wd - (Lib.runeCount ⟨ys.toArray⟩ : Int)) z _ (by first | exact FM1.out | exact FM1.out.below ((Below.refl _ _).drew) (Nat.le_refl _) | exact FM1.out.below (below_drewN (Below.refl _ _) _) (Nat.le_refl _)) h7 (by first | exact cellS hM BB.out h0 hp0 | exact cellS hM BB.out.drew h0 hp0 | exact cellS hM (BB.out.drewN _) h0 hp0) (by omega) (by omega) (by omega) HONE.out).mono ?_
        rintro e w3 ⟨rfl, fm3, b3⟩
        have B3 : Hid (Safe base pb w w3) := by first | exact BB.out.trans b3 | exact BB.out.drew.trans b3 | exact (BB.out.drewN _).trans b3
        have FM3 := hide fm3
        have f03 := fm3.cell fm3.ptr
        obtain ⟨A, c, hbox, hown⟩ := fm3.holds
        have HX := hide hbox
        have HO := hide hown
        clear fm3 b3 hbox hown
        go_wp2_with fail
        refine (write_any pb base A A' _ c m d _ ys w3 HX.out HO.out FM3.out.hb (HS.out w3 B3.out FM3.out.fm) (cellS hM B3.out h0 hp0) (by omega)).mono ?_
        rintro e w4 ⟨rfl, hh4, ho4⟩
        have Q := hide (FM3.out.wrote HX.out HO.out hh4 ho4)
        clear hh4 ho4
        go_wp2
        go_end0
        refine ⟨rfl, ?_, B3.out.trans Q.out.2⟩
        have q1 := Q.out.1
        rw [List.append_assoc, Nat.add_assoc] at q1
        exact q1
      · obtain ⟨A, c, hbox, hown⟩ := FM1.out.holds
        have HX := hide hbox
        have HO := hide hown
        clear hbox hown
        go_wp2_with fail
        refine (write_any pb base A A' n c m d xs ys _ (by first | exact HX.out) (by first | exact HO.out) (by first | exact FM1.out.hb) (by first | exact HS.out _ BB.out FM1.out.fm | exact HS.out _ BB.out.drew FM1.out.fm | exact HS.out _ (BB.out.drewN _) FM1.out.fm) (by first | exact cellS hM BB.out h0 hp0 | exact cellS hM BB.out.drew h0 hp0 | exact cellS hM (BB.out.drewN _) h0 hp0) (by omega)).mono ?_
        rintro e w3 ⟨rfl, hh4, ho4⟩
        have Q : Hid (Fm w3 fb pb base (n + m) F (xs ++ ys.map bt) ∧ Safe base pb w w3) := by
          first
          | exact ⟨(FM1.out.wrote HX.out HO.out hh4 ho4).1, BB.out.trans (FM1.out.wrote HX.out HO.out hh4 ho4).2⟩
          | exact (fun F2 => (⟨(Fm.wrote F2 HX.out HO.out hh4 ho4).1, BB.out.drew.trans (Fm.wrote F2 HX.out HO.out hh4 ho4).2⟩ : _ ∧ _)) (FM1.out.below ((Below.refl _ _).drew) (Nat.le_refl _))
        clear hh4 ho4
        have f03 := Q.out.1.cell Q.out.1.ptr
        go_wp2_with fail
        refine (padding_any fb pb base (n + m) F _ (wd - (Lib.runeCount ⟨ys.toArray⟩ : Int)) z w3 Q.out.1 h7 (cellS hM Q.out.2 h0 hp0) (by omega) (by omega) (by omega) (fun v hv => by
          rcases List.mem_append.1 hv with h | h
          · exact HONE.out v h
          · exact bts_one _ v h)).mono ?_
        rintro e w4 ⟨rfl, fm4, b4⟩
        have Q4 := hide fm4
        have B4 := hide b4
        clear fm4 b4
        go_wp2
        go_end0
        refine ⟨rfl, ?_, Q.out.2.trans B4.out⟩
        have q1 := Q4.out
        rw [List.append_assoc, Nat.add_assoc, Nat.add_comm m] at q1
        exact q1
end Go.Proofs.YtibndpnoeoajaaaDoor
