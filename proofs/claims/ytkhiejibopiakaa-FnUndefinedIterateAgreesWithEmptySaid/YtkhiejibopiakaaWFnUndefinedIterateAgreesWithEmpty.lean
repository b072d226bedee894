/- The law FnUndefinedIterateAgreesWithEmpty walked: the call returns true and writes nothing that was there. Its conditions: none beyond the arguments' types. -/
import Derived.Test.YtkhiejibopiakaaProg
import Derived.Test.YtkhiejibopiakaaBase
import Derived.Handy
import Derived.Outline
import Derived.WalkLawsBesides
import Derived.WalkSpells
import Derived.Deep.QuietTactic
import Derived.BigQuiet
import Derived.RegionTactic
import Derived.ChangeAlike
import Derived.Test.YtkhiejibopiakaaIter
import Derived.LaidEql
namespace Go.Proofs.Ytkhiejibopiakaa.fnUndefinedIterateAgreesWithEmpty
open Go.RowKit Go.Proofs.Ytkhiejibopiakaa
theorem info22 : (Try.prog.info? 22).map (·.comparable) = some true := by kernel_rfl
theorem info26 : (Try.prog.info? 26).isSome = true := by kernel_rfl
theorem info_parts1 {x : Option TypeInfo} (h : x.map (·.comparable) = some true) : ∃ i, x = some i ∧ i.comparable = true := by
  cases x with
  | none => cases h
  | some i => exact ⟨i, rfl, by simpa using h⟩
set_option maxRecDepth 100000 in
set_option linter.unusedVariables false in
set_option maxHeartbeats 2000000 in
theorem walk (a0 : Int) (w : World) (w0 : (Lit.int .i64 a0).wf = true) :
    Calls Try.prog 3 #[.int .i64 a0] w fun e w' => e = .returned (.bool true) ∧ Below w.heap.size w w' := by
  by_cases h : 1 ≤ a0 ∧ a0 ≤ 4096
  · obtain ⟨h1, h2⟩ := h
    have hmm := @run_makeMap Try.prog
    go_enter Try.func3, Try.ntmps3
    go_wp2_with (go_at_call 4; go_in)
    refine (arr_iter _ (w.heap.size + 1) ?_).mono ?_
    · have := Blk.new (w.alloc (.cells #[] 26)) #[.slice none 0 0] 33
      simpa using this
    rintro e wa ⟨ba, rfl, hba, Ba, Ea⟩
    have HBA := hide Ba
    have EA : Hid (Below w.heap.size w wa) := (((Below.refl w.heap.size w).alloc (Nat.le_refl _) (.cells #[] 26)).alloc (by simp) (.cells #[.slice none 0 0] 33)).trans (Ea.mono (by simp; omega))
    have zA : w.heap.size ≤ ba := by simp at hba; omega
    clear Ba Ea hba
    go_wp2_with fail
    refine (map_iter _ (wa.heap.size + 1) wa.heap.size ?_ ?_).mono ?_
    · have := Blk.new (wa.alloc (.map #[] 0)) #[.map (some wa.heap.size)] 37
      simpa using this
    · exact heap_alloc2_old wa _ _
    rintro e wm ⟨bm, rfl, hbm, Bm, Em⟩
    have HBM := hide Bm
    have EAM : Hid (Below wa.heap.size wa wm) := (((Below.refl wa.heap.size wa).alloc (Nat.le_refl _) (.map #[] 0)).alloc (by simp) (.cells #[.map (some wa.heap.size)] 37)).trans (Em.mono (by simp; omega))
    have EM : Hid (Below w.heap.size w wm) := EA.out.trans (EAM.out.mono EA.out.size)
    have zM : wa.heap.size ≤ bm := by simp at hbm; omega
    have HBA2 := hide (HBA.out.below EAM.out HBA.out.lt)
    have lA := HBA.out.lt
    clear Bm Em hbm HBA EA EAM
    go_wp2_with fail
    refine (str_iter _ wm.heap.size (Blk.new _ _ _)).mono ?_
    rintro e ws ⟨v, bs, rfl, hbs, Bs, Es⟩
    have HBS := hide Bs
    have EMS : Hid (Below wm.heap.size wm ws) := ((Below.refl wm.heap.size wm).alloc (Nat.le_refl _) _).trans Es
    have ES : Hid (Below w.heap.size w ws) := EM.out.trans (EMS.out.mono EM.out.size)
    have zS : wm.heap.size ≤ bs := by simp at hbs; omega
    have HBA3 := hide (HBA2.out.below EMS.out HBA2.out.lt)
    have HBM3 := hide (HBM.out.below EMS.out HBM.out.lt)
    have lM := HBM.out.lt
    clear Bs Es hbs HBA2 HBM EM EMS
    go_wp2_with fail
    go_loopw [8, 9, 10, 11, 12] (fun c1 c2 c3 c4 ix wr => c1 = .int .i64 0 ∧ c2 = .int .i64 0 ∧ c3 = .int .i64 0 ∧ c4 = .int .i64 0 ∧ ∃ j : Nat, j ≤ a0.toNat ∧ ix = .int .i64 j ∧ Hid (Blk wr ba #[.slice none 0 0, .int .i64 j, .int .i64 0] 47) ∧ Hid (Blk wr bm #[.map (some wa.heap.size), .slice none 0 0, .int .i64 j, .int .i64 0] 51) ∧ Hid (Blk wr bs #[v, .int .i64 j, .int .i64 0] 54) ∧ Hid (Below w.heap.size w wr)) (fun _ _ _ _ ix _ => a0.toNat - (intOf ix).toNat)
    case atStart => exact ⟨rfl, rfl, rfl, rfl, 0, Nat.zero_le _, rfl, HBA3, HBM3, HBS, ES⟩
    case round =>
      obtain ⟨rfl, rfl, rfl, rfl, j, hj, rfl, A, M, S, B⟩ := hrel
      clear HBA3 HBM3 HBS ES
      by_cases hlt : j < a0.toNat
      · go_wp2_with (first | (go_at_call 25; go_in))
        refine (arr_next wr ba _ j A.out (by omega) (by omega)).mono ?_
        rintro e w1 ⟨rfl, q1, E1⟩
        have A1 : Hid (Blk w1 ba #[.slice none 0 0, .int .i64 (j + 1 : Int), .int .i64 0] 47) := by subst E1; exact ((A.out.set 1 _).drewN _)
        have M1 : Hid (Blk w1 bm #[.map (some wa.heap.size), .slice none 0 0, .int .i64 j, .int .i64 0] 51) := by subst E1; exact ((M.out.other (by show ¬ bm = ba; omega) _).drewN _)
        have S1 : Hid (Blk w1 bs #[v, .int .i64 j, .int .i64 0] 54) := by subst E1; exact ((S.out.other (by show ¬ bs = ba; omega) _).drewN _)
        have B1 : Hid (Below w.heap.size w w1) := by subst E1; exact below_drewN (B.out.setCell (p := ⟨ba, 1, none⟩) (by show w.heap.size ≤ ba; omega) _) _
        clear E1 A M S B
        go_wp2_with fail
        refine (map_next w1 bm _ _ j M1.out (by omega) (by omega)).mono ?_
        rintro e w2 ⟨rfl, q2, E2⟩
        have A2 : Hid (Blk w2 ba #[.slice none 0 0, .int .i64 (j + 1 : Int), .int .i64 0] 47) := by subst E2; exact ((A1.out.other (by show ¬ ba = bm; omega) _).drewN _)
        have M2 : Hid (Blk w2 bm #[.map (some wa.heap.size), .slice none 0 0, .int .i64 (j + 1 : Int), .int .i64 0] 51) := by subst E2; exact ((M1.out.set 2 _).drewN _)
        have S2 : Hid (Blk w2 bs #[v, .int .i64 j, .int .i64 0] 54) := by subst E2; exact ((S1.out.other (by show ¬ bs = bm; omega) _).drewN _)
        have B2 : Hid (Below w.heap.size w w2) := by subst E2; exact below_drewN (B1.out.setCell (p := ⟨bm, 2, none⟩) (by show w.heap.size ≤ bm; omega) _) _
        clear E2 A1 M1 S1 B1
        go_wp2_with fail
        refine (str_next w2 bs _ j S2.out (by omega) (by omega)).mono ?_
        rintro e w3 ⟨rfl, q3, E3⟩
        have A3 : Hid (Blk w3 ba #[.slice none 0 0, .int .i64 (j + 1 : Int), .int .i64 0] 47) := by subst E3; exact ((A2.out.other (by show ¬ ba = bs; omega) _).drewN _)
        have M3 : Hid (Blk w3 bm #[.map (some wa.heap.size), .slice none 0 0, .int .i64 (j + 1 : Int), .int .i64 0] 51) := by subst E3; exact ((M2.out.other (by show ¬ bm = bs; omega) _).drewN _)
        have S3 : Hid (Blk w3 bs #[v, .int .i64 (j + 1 : Int), .int .i64 0] 54) := by subst E3; exact ((S2.out.set 1 _).drewN _)
        have B3 : Hid (Below w.heap.size w w3) := by subst E3; exact below_drewN (B2.out.setCell (p := ⟨bs, 1, none⟩) (by show w.heap.size ≤ bs; omega) _) _
        clear E3 A2 M2 S2 B2
        go_wp2
        go_roundw
        case rel => exact ⟨rfl, rfl, rfl, rfl, j + 1, by omega, by go_num, A3, M3, S3, B3⟩
        case measure => simp [intOf]; omega
      · obtain ⟨i, hi, hcmp⟩ : ∃ i, Try.prog.info? 22 = some i ∧ i.comparable = true := info_parts1 info22
        obtain ⟨i2, hi2⟩ : ∃ i, Try.prog.info? 26 = some i := Option.isSome_iff_exists.1 info26
        have heq := run_eql_iface_ptr_same (P := Try.prog) wr ⟨w.heap.size, 0, none⟩ Try.underlying72 Try.underlying22 hi hcmp hi2
        clear hi hcmp hi2
        go_wp2_with (first | (go_at_call 4; go_in) | (go_at_call 24; go_in))
        go_ret
        exact ⟨by simp, B.out⟩
  · go_enter Try.func3, Try.ntmps3
    go_wp2
    all_goals go_ret
    all_goals exact ⟨rfl, Below.refl _ _⟩
end Go.Proofs.Ytkhiejibopiakaa.fnUndefinedIterateAgreesWithEmpty
