/- zzModelPadded: what comes back owns the buffer's bytes and, behind them, the string in its field. Conditions: lengths of at most 2^20, a width of at most 2^16 either way. -/
import Derived.Test.YtmpdcljnghaekaaDoorPadS
import Derived.Test.YtmpdcljnghaekaaDoorAppendPad
import Derived.Test.YtmpdcljnghaekaaDoorSeq
namespace Go.Proofs.YtmpdcljnghaekaaDoor
open Go.RowKit

theorem ret_len {A : Option Addr} {a b c : Nat} (h : a = b) : Ending.returned (.slice A a c) = .returned (.slice A b c) := by rw [h]

theorem appendPadding_ex (base : Nat) (A : Option Addr) (n c : Nat) (xs : List Value) (k : Int) (z : Bool) (w : World) (h : w.ownsRow base 5 1 (.slice A n c) n xs) (hb : base ≤ w.heap.size) (hn : n ≤ 4194304) (hk : k ≤ 4194304) (hk0 : -9223372036854775808 ≤ k) :
    Calls Tryd.prog 25 #[.slice A n c, .int .i64 k, .bool z] w fun e w' => ∃ A' c' kn, Hid (kn = k.toNat) ∧ e = .returned (.slice A' (n + kn) c') ∧ w'.ownsRow base 5 1 (.slice A' (n + kn) c') (n + kn) (xs ++ padL z kn) ∧ Below base w w' :=
  (appendPadding_any base A n c xs k z w h hb hn hk hk0).mono fun _ _ ⟨A', c', h1, h2, h3⟩ => ⟨A', c', k.toNat, rfl, h1, h2, h3⟩

set_option maxHeartbeats 2000000 in
theorem model_at (A : Option Addr) (n c : Nat) (zs : List UInt8) (s : ByteArray) (wp mi z : Bool) (wd kk : Int) (w : World) (h : SlIn w w.heap.size A n c (zs.map bt)) (hn : n ≤ 1048576) (hs : s.size ≤ 1048576) (hw0 : -65536 ≤ wd) (hw1 : wd ≤ 65536)
    (hk : (wp = false ∧ kk = 0) ∨ (wp = true ∧ wd = 0 ∧ kk = 0) ∨ (wp = true ∧ ¬ wd = 0 ∧ kk = wd - (Lib.runeCount s : Nat))) :
    Calls Tryd.prog 12 #[.slice A n c, .string s, .bool wp, .int .i64 wd, .bool mi, .bool z] w (Made 5 (n + (kk.toNat + s.size)) (zs.map bt ++ inField mi z kk.toNat (s.data.toList.map bt)) w) := by
  obtain ⟨i, hi, hz0, hz1, hz2⟩ := info_parts info_u8
  have hrc := Lib.runeCount_le s
  have S0 := hide h
  clear h
  have RC : Hid (∀ w, Calls Tryd.prog 29 #[.string s] w fun e w' => e = .returned (.int .i64 (Lib.runeCount s : Nat)) ∧ w = w') := fun w => zzCount_any s w (by omega)
  generalize Lib.runeCount s = rc at hk hrc RC
  rcases hk with ⟨rfl, rfl⟩ | ⟨rfl, rfl, rfl⟩ | ⟨rfl, hwz, rfl⟩
  all_goals
    cases mi
    · go_enter Tryd.func12, Tryd.ntmps12
      go_wp2_with (first
        | (at_make; refine wpList_make_own _ rfl _ _ 22 rfl w.heap.size 5 i (.int .u8 0) 1 Tryd.underlying22 hi hz0 hz1 _ _ _ (n + s.size) rfl rfl (by simp) (by rw [hz2]; omega) (by unfold maxLen; omega) (Nat.le_refl _) ?_; intro w5 hown5 hgrow5; have O5 := hide hown5; have B5 := hide ((Below.refl w.heap.size w).grown hgrow5 (Nat.le_refl _) (fun k hk => by cases hk)); have SI := hide ((S0.out.below B5.out (Nat.le_refl _)).mono B5.out.size); have h5s := B5.out.size; clear hown5 hgrow5)
        | (at_builtin; refine wpList_append_in _ rfl _ _ 22 22 rfl w.heap.size 5 5 i (.int .u8 0) 1 Tryd.underlying22 Tryd.underlying22 hi hz0 hz1 hz2 rfl _ 0 [] rfl O5.out w5.heap.size A n c (zs.map bt) rfl SI.out (bts_one zs) (by unfold maxLen; omega) (by omega) (by omega) ?_; intro A6 c6 w6 hown6 hgrow6; have O6 := hide (show w6.ownsRow w.heap.size 5 1 (.slice A6 n c6) n (zs.map bt) by simpa using hown6); have B6 := hide (B5.out.grown hgrow6 B5.out.size (fun k hk => (O5.out.lt k hk).1)); have h6s := B6.out.size; clear hown6 hgrow6 O5 SI h5s; rw [Nat.zero_add])
        | (go_at_call 29; refine (RC.out _).mono ?_; rintro e w' ⟨rfl, rfl⟩))
      refine (appendPadding_ex w.heap.size A6 n c6 (zs.map bt) _ z w6 O6.out B6.out.size (by omega) (by omega) (by omega)).mono ?_
      rintro e w7 ⟨A7, c7, kn, HK, rfl, hown7, hb7⟩
      have hkb : kn ≤ 4194304 := by have := HK.out; omega
      have O7 := hide hown7
      have B7 := hide (B6.out.trans hb7)
      have h7s := B7.out.size
      clear hown7 hb7
      go_wp2_with (at_builtin; refine wpList_append_str _ rfl _ _ 22 9 rfl w.heap.size 5 i Tryd.underlying22 Tryd.underlying9 hi hz0 hz1 hz2 _ _ _ rfl O7.out s rfl (by unfold maxLen; omega) (by omega) (by omega) ?_; intro A8 c8 w8 hown8 hgrow8; have O8 := hide hown8; have B8 := hide (B7.out.grown hgrow8 B7.out.size (fun k hk => (O7.out.lt k hk).1)); clear hown8 hgrow8)
      go_ret
      refine ⟨A8, c8, ret_len (by have := HK.out; omega), ?_, B8.out⟩
      have q := O8.out
      rw [HK.out] at q
      rw [List.append_assoc, Nat.add_assoc] at q
      exact q
    · go_enter Tryd.func12, Tryd.ntmps12
      go_wp2_with (first
        | (at_make; refine wpList_make_own _ rfl _ _ 22 rfl w.heap.size 5 i (.int .u8 0) 1 Tryd.underlying22 hi hz0 hz1 _ _ _ (n + s.size) rfl rfl (by simp) (by rw [hz2]; omega) (by unfold maxLen; omega) (Nat.le_refl _) ?_; intro w5 hown5 hgrow5; have O5 := hide hown5; have B5 := hide ((Below.refl w.heap.size w).grown hgrow5 (Nat.le_refl _) (fun k hk => by cases hk)); have SI := hide ((S0.out.below B5.out (Nat.le_refl _)).mono B5.out.size); have h5s := B5.out.size; clear hown5 hgrow5)
        | (at_builtin; refine wpList_append_in _ rfl _ _ 22 22 rfl w.heap.size 5 5 i (.int .u8 0) 1 Tryd.underlying22 Tryd.underlying22 hi hz0 hz1 hz2 rfl _ 0 [] rfl O5.out w5.heap.size A n c (zs.map bt) rfl SI.out (bts_one zs) (by unfold maxLen; omega) (by omega) (by omega) ?_; intro A6 c6 w6 hown6 hgrow6; have O6 := hide (show w6.ownsRow w.heap.size 5 1 (.slice A6 n c6) n (zs.map bt) by simpa using hown6); have B6 := hide (B5.out.grown hgrow6 B5.out.size (fun k hk => (O5.out.lt k hk).1)); have h6s := B6.out.size; clear hown6 hgrow6 O5 SI h5s; rw [Nat.zero_add])
        | (at_builtin; refine wpList_append_str _ rfl _ _ 22 9 rfl w.heap.size 5 i Tryd.underlying22 Tryd.underlying9 hi hz0 hz1 hz2 _ n (zs.map bt) rfl O6.out s rfl (by unfold maxLen; omega) (by omega) (by omega) ?_; intro A8 c8 w8 hown8 hgrow8; have O8 := hide hown8; have B8 := hide (B6.out.grown hgrow8 B6.out.size (fun k hk => (O6.out.lt k hk).1)); clear hown8 hgrow8)
        | (go_at_call 29; refine (RC.out _).mono ?_; rintro e w' ⟨rfl, rfl⟩))
      refine (appendPadding_ex w.heap.size A8 (n + s.size) c8 _ _ z w8 O8.out B8.out.size (by omega) (by omega) (by omega)).mono ?_
      rintro e w7 ⟨A7, c7, kn, HK, rfl, hown7, hb7⟩
      have hkb : kn ≤ 4194304 := by have := HK.out; omega
      have O7 := hide hown7
      have B7 := hide (B8.out.trans hb7)
      clear hown7 hb7
      go_wp2
      go_ret
      refine ⟨A7, c7, ret_len (by have := HK.out; omega), ?_, B7.out⟩
      have q := O7.out
      rw [HK.out] at q
      rw [List.append_assoc, Nat.add_assoc, Nat.add_comm s.size] at q
      exact q

theorem model_any (A : Option Addr) (n c : Nat) (zs : List UInt8) (s : ByteArray) (wp mi z : Bool) (wd : Int) (w : World) (h : SlIn w w.heap.size A n c (zs.map bt)) (hn : n ≤ 1048576) (hs : s.size ≤ 1048576) (hw0 : -65536 ≤ wd) (hw1 : wd ≤ 65536) :
    Calls Tryd.prog 12 #[.slice A n c, .string s, .bool wp, .int .i64 wd, .bool mi, .bool z] w (Made 5 (n + (room wp wd (Lib.runeCount s) + s.size)) (zs.map bt ++ inField mi z (room wp wd (Lib.runeCount s)) (s.data.toList.map bt)) w) := by
  cases wp
  · exact model_at A n c zs s false mi z wd 0 w h hn hs hw0 hw1 (.inl ⟨rfl, rfl⟩)
  · by_cases hwz : wd = 0
    · subst hwz
      exact model_at A n c zs s true mi z 0 0 w h hn hs hw0 hw1 (.inr (.inl ⟨rfl, rfl, rfl⟩))
    · have e : room true wd (Lib.runeCount s) = (wd - (Lib.runeCount s : Nat)).toNat := by simp [room, hwz]
      rw [e]
      exact model_at A n c zs s true mi z wd _ w h hn hs hw0 hw1 (.inr (.inr ⟨rfl, hwz, rfl⟩))
end Go.Proofs.YtmpdcljnghaekaaDoor
