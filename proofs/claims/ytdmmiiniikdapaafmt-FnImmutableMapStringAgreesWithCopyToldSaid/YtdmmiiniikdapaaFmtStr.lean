/- String of a map of Ints: the entries in the order in which the map gives them, joined, between braces. Conditions: short keys, at most 4096 entries, the block of strconv's table holding numbers. -/
import Derived.Test.YtdmmiiniikdapaaFmtSpr
import Derived.BigCall
import Derived.Maps.AppendAt
set_option linter.unusedSimpArgs false
namespace Go.Proofs.YtdmmiiniikdapaaFmt
open Go.RowKit Go.Extern.Stop Go.Stop Go.Extern
attribute [local go_sem] call18 guardF fmtE fmtEr fmtW fmtWr op9_115 strict9

theorem cell_two (w : World) (o : Obj) (v : Value) (t : TypeId) : ∀ (j : Nat) u, [v][j]? = some u → ((w.alloc o).alloc (.cells #[v] t)).drew.cell? ((⟨w.heap.size + 1, 0, none⟩ : Addr).add j) = some u := by
  intro j u hj
  have h := cell_one_new (w.alloc o) v t j u hj
  have e : (w.alloc o).heap.size = w.heap.size + 1 := by simp
  rw [e] at h
  exact h

/-- The loop's iterator through a call that writes above, two new blocks and an append to a row above. -/
theorem ranges_through {w1 w2 w3 : World} {bm n cnt : Nat} {D : DataW Unit} {left : Lit → Bool} {v : Value} (r base : Nat) (h : w1.ranges Tryf.prog 9 elemR bm r n D left cnt) (hb : Below w1.heap.size w1 w2) (o o' : Obj) (hg : ((w2.alloc o).alloc o').drew.grownBy w3 v.ownBlock)
    (hv : ∀ q, v.ownBlock = some q → base ≤ q) (h1 : r < base) (h2 : bm < base) : w3.ranges Tryf.prog 9 elemR bm r n D left cnt := by
  have h3 : w2.ranges Tryf.prog 9 elemR bm r n D left cnt := h.kept (row := none) ⟨hb.os, hb.tape, hb.output, hb.size, fun k hk _ => hb.block k hk⟩ (by simp) (by simp)
  have h4 : ((w2.alloc o).alloc o').drew.ranges Tryf.prog 9 elemR bm r n D left cnt := (h3.alloc o).alloc o'
  exact h4.kept hg (fun e => by have := hv bm e.symm; omega) (fun e => by have := hv r e.symm; omega)

/-- Join over what the loop has gathered. -/
theorem join_any (T : Nat → Int) (V : Vals) (ps : List (List UInt8)) (ao : Option Addr) (cv base : Nat) (w : World) (hown : w.ownsRow base 9 1 (.slice ao ps.length cv) ps.length (ps.map fun l => .string (bs (entT T V l)))) (hn : ps.length ≤ 4096) (hlen : (Lib.join (ps.map (entT T V)) [44, 32]).length ≤ 140737488355328) :
    Calls Tryf.prog 19 #[.slice ao ps.length cv, .string ⟨#[44, 32]⟩] w fun e w' => e = .returned (.string ⟨(Lib.join (ps.map (entT T V)) [44, 32]).toArray⟩) ∧ Below w.heap.size w w' := by
  by_cases h0 : ps = []
  · subst h0
    refine (Tryf.strings_Join_none ao cv ⟨#[44, 32]⟩ w).mono ?_
    rintro e w' ⟨rfl, rfl⟩
    exact ⟨rfl, Below.refl _ _⟩
  · have hl0 : 0 < ps.length := List.length_pos_iff.2 h0
    have hs := SlIn.of_own hown
    obtain ⟨b, off, u, rfl, hb, hu, hc⟩ := hs.cell hl0
    have hoff : off = 0 := by
      rcases hown.2 with ⟨_, h⟩ | ⟨g, cap, _, h, _⟩
      · omega
      · simp only [Value.slice.injEq, Option.some.injEq, Addr.mk.injEq] at h
        exact h.1.2.1
    subst hoff
    have e1 : ((ps.map fun l => bs (entT T V l)).map (·.data.toList)) = ps.map (entT T V) := by simp [bs, Function.comp_def]
    have J := Tryf.strings_Join b 0 cv (ps.map fun l => bs (entT T V l)) ⟨#[44, 32]⟩ w (fun j x hj => by
      have h1 : (ps.map fun l => Value.string (bs (entT T V l)))[j]? = some (.string x) := by
        rw [List.getElem?_map] at hj ⊢
        cases hp : ps[j]? with
        | none => rw [hp] at hj; cases hj
        | some y => rw [hp] at hj; obtain rfl := Option.some.inj hj; rfl
      obtain ⟨b', off', e, _, hc'⟩ := hs.cells j _ h1
      simp only [Option.some.injEq, Addr.mk.injEq] at e
      obtain ⟨rfl, rfl, _⟩ := e
      exact hc') hb (by rw [List.length_map]; omega) (by rw [List.length_map]; exact hs.le) (by rw [e1]; exact hlen)
    rw [List.length_map, e1] at J
    exact J

/-- A text of the entries in some order comes back. -/
def StrOut (T : Nat → Int) (V : Vals) (w : World) (e : Ending) (w' : World) : Prop := ∃ ps, e = .returned (.string ⟨(strT T V ps).toArray⟩) ∧ ps.Nodup ∧ (∀ l, l ∈ ps ↔ (V l).isSome = true) ∧ ps.length ≤ 4096 ∧ Below w.heap.size w w'

set_option maxRecDepth 100000 in
set_option maxHeartbeats 4000000 in
theorem string10_any (F : Interp) (T : Nat → Int) (ob bm n : Nat) (D : DataW Unit) (V : Vals) (w : World) (hF : F.told.answers w.tape) (hT : Tab w T) (hV : Fits V) (h : IM w ob bm n D V) :
    Calls Tryf.prog 10 #[.pointer (some ⟨ob, 0, none⟩)] w (StrOut T V w) := by
  obtain ⟨i0, hi, hz0, hz1, hz2⟩ := info_parts info_str
  have HI := hide h
  have HT := hide hT
  have HV := hide hV
  have HF := hide hF
  have c0 := h.obj
  have l0 := h.lt
  have hbm := h.map.lt
  have hle := h.le
  have hsz := h.map.size_le
  clear h hT hV hF
  go_enter Tryf.func10, Tryf.ntmps10
  go_wp2_with (at_range; refine wpList_range_own _ rfl _ 40 rfl 9 47 law9 Tryf.underlying40 elemR bm n D rfl HI.out.map ?_; intro w0 hrg0 hg0 hs0; have R0 := hide hrg0; have G0 := hide hg0; clear hrg0 hg0 hs0)
  go_frame
  have B0 : Hid (Below w.heap.size w w0) := (Below.refl w.heap.size w).grown G0.out (Nat.le_refl _) (fun k hk => by cases hk)
  have HR := hide (Nat.le_refl w.heap.size)
  generalize hrr : w.heap.size = r at R0 ⊢
  have HRR := hide hrr
  clear hrr
  go_loopw [3] (fun v wr => ∃ (left : Lit → Bool) (cnt : Nat) (ps : List (List UInt8)) (ao : Option Addr) (cv : Nat), ps.length + cnt ≤ 4096 ∧ v = .slice ao ps.length cv ∧ Hid (Track D left ps) ∧ Hid (wr.ranges Tryf.prog 9 elemR bm r n D left cnt) ∧ Hid (wr.ownsRow (r + 1) 9 1 v ps.length (ps.map fun l => .string (bs (entT T V l)))) ∧ Hid (Below w.heap.size w wr)) (fun _ wr => wr.rangeLeft bm r)
  case atStart => exact ⟨Maps.has D, Maps.size D, [], none, 0, by simp; omega, rfl, Track.start D, R0, World.ownsRow_nil _ _ _ _, B0⟩
  case round =>
    obtain ⟨left, cnt, ps, ao, cv, hmc, rfl, TR, R, O, B⟩ := hrel
    clear R0 G0 B0 hsz
    go_wp2_with (at_next; refine wpList_next_ranges _ rfl _ rfl 9 law9 elemR encStr mkV invK (fun v y hv => elemR_inv hv) bm r n _ _ _ rfl R.out ?_ ?_)
    · intro hc0 hl0
      have HD := hide (TR.out.done hl0)
      clear hl0
      have hps : ∀ l ∈ ps, ∃ y, V l = some y := fun l hl => by
        have h1 := (HD.out l).1 hl
        rw [HI.out.cont.has_iff l] at h1
        exact Option.isSome_iff_exists.1 h1
      have hjl : (Lib.join (ps.map (entT T V)) [44, 32]).length ≤ 140737488355328 := by
        have h1 := join_length_le (M := 1048700) (sep := [44, 32]) (L := ps.map (entT T V)) (fun l hl => by
          obtain ⟨k, hk, rfl⟩ := List.mem_map.1 hl
          obtain ⟨y, hy⟩ := hps k hk
          exact entT_length HV.out hy)
        rw [List.length_map] at h1
        have h2 : ps.length * (1048700 + 2) ≤ 4096 * (1048700 + 2) := Nat.mul_le_mul_right _ (by omega)
        simp only [List.length_cons, List.length_nil] at h1
        omega
      have HJ := hide (join_any T V ps ao cv (r + 1) wr O.out (by omega) hjl)
      have HL := hide hjl
      clear hjl hps
      go_wp2_with (go_at_call 19; refine HJ.out.mono ?_; rintro e w2 ⟨rfl, hb2⟩; have B2 := hide hb2; clear hb2; have hF' := answers_open (F := F.told) (show F.told.answers w2.tape by rw [B2.out.tape, B.out.tape]; exact HF.out))
      go_ret
      refine ⟨ps, ?_, TR.out.nd, fun l => ?_, by omega, ?_⟩
      · rw [whole_b F _ (by have := HL.out; omega)]
        rfl
      · rw [HD.out l, HI.out.cont.has_iff l]
      · exact ((B.out.trans (B2.out.mono B.out.size)).alloc (Nat.le_trans B.out.size B2.out.size) _).drew
    · intro x c kl yd yp w1 cnt1 hkey hlk hv hat hrg1 hlt hg1 hs1 hen
      obtain rfl := keyX hkey
      have HY : Hid (yd = .lit (.int .i64 (c : Int))) := by
        rw [elemR_mk] at hv
        have := Option.some.inj hv
        exact ((Prod.mk.inj this).1).symm
      obtain ⟨x0, hVx, hx0⟩ := HI.out.cont.at (l := x) (fun z => (hat z).trans HY.out)
      have hcl := hx0.lt
      have HVX := hide hVx
      have B1 := hide (B.out.grown hg1 B.out.size (fun g hg => by cases hg; have := HRR.out; omega))
      have K1 := hide (hx0.below B1.out hcl)
      have T1 := hide (HT.out.below B1.out HT.out.lt)
      have F1 := hide (show F.told.answers w1.tape by rw [B1.out.tape]; exact HF.out)
      have O1 := hide (O.out.kept hg1 (by right; intro e; have := (O.out.lt r e).1; omega))
      have TR1 := hide (TR.out.step hlk)
      have R1 := hide hrg1
      have hzw := B1.out.size
      have hzr : r < w1.heap.size := R1.out.lt
      have hrng := hide (HV.out.rng x x0 hVx)
      clear hkey hlk hv hat hrg1 hg1 hs1 hx0 hVx TR O
      unfold mkV at hen ⊢
      go_wp2_with (first | (go_at_call 45; refine (str_any T c x0 hrng.out.1 hrng.out.2 w1 T1.out K1.out).mono ?_; rintro e w2 ⟨rfl, hb2⟩; have B2 := hide hb2; clear hb2; have hF' := answers_open (F := F.told) (show F.told.answers w2.tape by rw [B2.out.tape]; exact F1.out)) | (at_builtin; go_loud (refine wpList_append_own _ rfl _ _ 22 rfl (r + 1) 9 i0 (.string ByteArray.empty) 1 16 Tryf.underlying22 hi hz0 hz1 hz2 rfl (by decide) _ _ _ rfl (((own_below O1.out B2.out).alloc _).alloc _) ⟨w2.heap.size + 1, 0, none⟩ 1 1 [.string (FmtStop.textOf (F.told "fmt.Sprintf" [[37, 115, 58, 32, 37, 115], shape9, FmtStop.pack x, shape9, FmtStop.pack (fmtT T x0)] 0))] rfl rfl (cell_two _ _ _ _) (fun u hu => by simp at hu; subst hu; rfl) (by unfold maxLen; omega) (by omega) (by have := B2.out.size; simp; omega) ?_; intro v3 w3 hown3 hgrow3 hnil3; obtain ⟨A3, c3, hv3⟩ := own_form hown3; subst hv3; have O3 := hide hown3; have G3 := hide hgrow3; clear hown3 hgrow3 hnil3; have RG := hide (ranges_through r (r + 1) R1.out B2.out _ _ G3.out (fun q hq => (O1.out.lt q hq).1) (by omega) (by have := R1.out.owns.lt; have := HRR.out; omega)); have BB := hide ((((B1.out.trans (B2.out.mono hzw)).alloc (Nat.le_trans hzw B2.out.size) _).alloc (by have := B2.out.size; simp; omega) _).drew.grown G3.out (by have := B2.out.size; simp; omega) (fun q hq => by have := (O1.out.lt q hq).1; have := HRR.out; omega)))))
      go_roundw
      case rel =>
        have etx : FmtStop.textOf (F.told "fmt.Sprintf" [[37, 115, 58, 32, 37, 115], shape9, FmtStop.pack x, shape9, FmtStop.pack (fmtT T x0)] 0) = bs (entT T V x) := by
          have h1 := HV.out.key x x0 HVX.out
          have h2 := fmtT_length T x0 hrng.out.1 hrng.out.2
          rw [entry_b F x (fmtT T x0) (by omega)]
          unfold bs entT
          rw [HVX.out]
          rfl
        refine ⟨_, cnt1, ps ++ [x], A3, c3, by simp; omega, by simp, TR1, RG.out, ?_, BB⟩
        have h3 := O3.out
        rw [etx] at h3
        rw [List.length_append, List.map_append]
        exact h3
      case measure =>
        rw [RG.out.left_eq, R.out.left_eq]
        exact hlt
set_option maxRecDepth 100000 in
set_option maxHeartbeats 4000000 in
theorem string69_any (F : Interp) (T : Nat → Int) (ob bm n : Nat) (D : DataW Unit) (V : Vals) (w : World) (hF : F.told.answers w.tape) (hT : Tab w T) (hV : Fits V) (h : IM w ob bm n D V) :
    Calls Tryf.prog 69 #[.pointer (some ⟨ob, 0, none⟩)] w (StrOut T V w) := by
  obtain ⟨i0, hi, hz0, hz1, hz2⟩ := info_parts info_str
  have HI := hide h
  have HT := hide hT
  have HV := hide hV
  have HF := hide hF
  have c0 := h.obj
  have l0 := h.lt
  have hbm := h.map.lt
  have hle := h.le
  have hsz := h.map.size_le
  clear h hT hV hF
  go_enter Tryf.func69, Tryf.ntmps69
  go_wp2_with (at_range; refine wpList_range_own _ rfl _ 40 rfl 9 47 law9 Tryf.underlying40 elemR bm n D rfl HI.out.map ?_; intro w0 hrg0 hg0 hs0; have R0 := hide hrg0; have G0 := hide hg0; clear hrg0 hg0 hs0)
  go_frame
  have B0 : Hid (Below w.heap.size w w0) := (Below.refl w.heap.size w).grown G0.out (Nat.le_refl _) (fun k hk => by cases hk)
  have HR := hide (Nat.le_refl w.heap.size)
  generalize hrr : w.heap.size = r at R0 ⊢
  have HRR := hide hrr
  clear hrr
  go_loopw [3] (fun v wr => ∃ (left : Lit → Bool) (cnt : Nat) (ps : List (List UInt8)) (ao : Option Addr) (cv : Nat), ps.length + cnt ≤ 4096 ∧ v = .slice ao ps.length cv ∧ Hid (Track D left ps) ∧ Hid (wr.ranges Tryf.prog 9 elemR bm r n D left cnt) ∧ Hid (wr.ownsRow (r + 1) 9 1 v ps.length (ps.map fun l => .string (bs (entT T V l)))) ∧ Hid (Below w.heap.size w wr)) (fun _ wr => wr.rangeLeft bm r)
  case atStart => exact ⟨Maps.has D, Maps.size D, [], none, 0, by simp; omega, rfl, Track.start D, R0, World.ownsRow_nil _ _ _ _, B0⟩
  case round =>
    obtain ⟨left, cnt, ps, ao, cv, hmc, rfl, TR, R, O, B⟩ := hrel
    clear R0 G0 B0 hsz
    go_wp2_with (at_next; refine wpList_next_ranges _ rfl _ rfl 9 law9 elemR encStr mkV invK (fun v y hv => elemR_inv hv) bm r n _ _ _ rfl R.out ?_ ?_)
    · intro hc0 hl0
      have HD := hide (TR.out.done hl0)
      clear hl0
      have hps : ∀ l ∈ ps, ∃ y, V l = some y := fun l hl => by
        have h1 := (HD.out l).1 hl
        rw [HI.out.cont.has_iff l] at h1
        exact Option.isSome_iff_exists.1 h1
      have hjl : (Lib.join (ps.map (entT T V)) [44, 32]).length ≤ 140737488355328 := by
        have h1 := join_length_le (M := 1048700) (sep := [44, 32]) (L := ps.map (entT T V)) (fun l hl => by
          obtain ⟨k, hk, rfl⟩ := List.mem_map.1 hl
          obtain ⟨y, hy⟩ := hps k hk
          exact entT_length HV.out hy)
        rw [List.length_map] at h1
        have h2 : ps.length * (1048700 + 2) ≤ 4096 * (1048700 + 2) := Nat.mul_le_mul_right _ (by omega)
        simp only [List.length_cons, List.length_nil] at h1
        omega
      have HJ := hide (join_any T V ps ao cv (r + 1) wr O.out (by omega) hjl)
      have HL := hide hjl
      clear hjl hps
      go_wp2_with (go_at_call 19; refine HJ.out.mono ?_; rintro e w2 ⟨rfl, hb2⟩; have B2 := hide hb2; clear hb2; have hF' := answers_open (F := F.told) (show F.told.answers w2.tape by rw [B2.out.tape, B.out.tape]; exact HF.out))
      go_ret
      refine ⟨ps, ?_, TR.out.nd, fun l => ?_, by omega, ?_⟩
      · rw [whole_b F _ (by have := HL.out; omega)]
        rfl
      · rw [HD.out l, HI.out.cont.has_iff l]
      · exact ((B.out.trans (B2.out.mono B.out.size)).alloc (Nat.le_trans B.out.size B2.out.size) _).drew
    · intro x c kl yd yp w1 cnt1 hkey hlk hv hat hrg1 hlt hg1 hs1 hen
      obtain rfl := keyX hkey
      have HY : Hid (yd = .lit (.int .i64 (c : Int))) := by
        rw [elemR_mk] at hv
        have := Option.some.inj hv
        exact ((Prod.mk.inj this).1).symm
      obtain ⟨x0, hVx, hx0⟩ := HI.out.cont.at (l := x) (fun z => (hat z).trans HY.out)
      have hcl := hx0.lt
      have HVX := hide hVx
      have B1 := hide (B.out.grown hg1 B.out.size (fun g hg => by cases hg; have := HRR.out; omega))
      have K1 := hide (hx0.below B1.out hcl)
      have T1 := hide (HT.out.below B1.out HT.out.lt)
      have F1 := hide (show F.told.answers w1.tape by rw [B1.out.tape]; exact HF.out)
      have O1 := hide (O.out.kept hg1 (by right; intro e; have := (O.out.lt r e).1; omega))
      have TR1 := hide (TR.out.step hlk)
      have R1 := hide hrg1
      have hzw := B1.out.size
      have hzr : r < w1.heap.size := R1.out.lt
      have hrng := hide (HV.out.rng x x0 hVx)
      clear hkey hlk hv hat hrg1 hg1 hs1 hx0 hVx TR O
      unfold mkV at hen ⊢
      go_wp2_with (first | (go_at_call 45; refine (str_any T c x0 hrng.out.1 hrng.out.2 w1 T1.out K1.out).mono ?_; rintro e w2 ⟨rfl, hb2⟩; have B2 := hide hb2; clear hb2; have hF' := answers_open (F := F.told) (show F.told.answers w2.tape by rw [B2.out.tape]; exact F1.out)) | (at_builtin; go_loud (refine wpList_append_own _ rfl _ _ 22 rfl (r + 1) 9 i0 (.string ByteArray.empty) 1 16 Tryf.underlying22 hi hz0 hz1 hz2 rfl (by decide) _ _ _ rfl (((own_below O1.out B2.out).alloc _).alloc _) ⟨w2.heap.size + 1, 0, none⟩ 1 1 [.string (FmtStop.textOf (F.told "fmt.Sprintf" [[37, 115, 58, 32, 37, 115], shape9, FmtStop.pack x, shape9, FmtStop.pack (fmtT T x0)] 0))] rfl rfl (cell_two _ _ _ _) (fun u hu => by simp at hu; subst hu; rfl) (by unfold maxLen; omega) (by omega) (by have := B2.out.size; simp; omega) ?_; intro v3 w3 hown3 hgrow3 hnil3; obtain ⟨A3, c3, hv3⟩ := own_form hown3; subst hv3; have O3 := hide hown3; have G3 := hide hgrow3; clear hown3 hgrow3 hnil3; have RG := hide (ranges_through r (r + 1) R1.out B2.out _ _ G3.out (fun q hq => (O1.out.lt q hq).1) (by omega) (by have := R1.out.owns.lt; have := HRR.out; omega)); have BB := hide ((((B1.out.trans (B2.out.mono hzw)).alloc (Nat.le_trans hzw B2.out.size) _).alloc (by have := B2.out.size; simp; omega) _).drew.grown G3.out (by have := B2.out.size; simp; omega) (fun q hq => by have := (O1.out.lt q hq).1; have := HRR.out; omega)))))
      go_roundw
      case rel =>
        have etx : FmtStop.textOf (F.told "fmt.Sprintf" [[37, 115, 58, 32, 37, 115], shape9, FmtStop.pack x, shape9, FmtStop.pack (fmtT T x0)] 0) = bs (entT T V x) := by
          have h1 := HV.out.key x x0 HVX.out
          have h2 := fmtT_length T x0 hrng.out.1 hrng.out.2
          rw [entry_b F x (fmtT T x0) (by omega)]
          unfold bs entT
          rw [HVX.out]
          rfl
        refine ⟨_, cnt1, ps ++ [x], A3, c3, by simp; omega, by simp, TR1, RG.out, ?_, BB⟩
        have h3 := O3.out
        rw [etx] at h3
        rw [List.length_append, List.map_append]
        exact h3
      case measure =>
        rw [RG.out.left_eq, R.out.left_eq]
        exact hlt
end Go.Proofs.YtdmmiiniikdapaaFmt
