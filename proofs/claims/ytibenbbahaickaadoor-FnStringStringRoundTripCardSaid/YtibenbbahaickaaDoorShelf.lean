/-
  DERIVED: THE SHELF's CONTRACTS AT THIS DUMP, IN PLAIN WORDS (tools/lay-plain.mjs out of 'YtibenbbahaickaaDoorShelfTry.lean', which tools/lay-shelf.mjs wrote): THE SAME DECLARATIONS UNDER THE SAME NAMES: 'import', 'namespace', 'open', 'def', 'theorem' AND NOTHING ELSE: no command of the shelf's: FOR A HAND-IN. Each laying: the table of numbers ('.._ren') and one theorem, a field a fact of the dump's own or the kernel's comparison; each contract: ONE APPLICATION.
-/
import Derived.Shelf.Small.Utf8
import Derived.Shelf.Utf8.AppendRune
import Derived.Shelf.Strconv.Bsearch
import Derived.Shelf.Strconv.IsPrint
import Derived.Shelf.Strconv.IsPrint16
import Derived.Shelf.Strconv.IsPrint32
import Derived.Shelf.Strconv.Escaped
import Derived.Shelf.Strconv.Quoted
import Derived.Shelf.Strconv.Quote
import Derived.Shelf.Unicode.DecodeSlow
import Derived.Shelf.Unicode.DecodeAny
import Derived.Test.YtibenbbahaickaaDoorProg
namespace Go.Proofs
open Go.Shelf
def Tryd.lays177_ren : Go.Shelf.Ren := ⟨fun | 177 => 8 | 250 => 12 | 289 => 13 | 197 => 14 | 323 => 15 | 260 => 16 | 339 => 17 | 340 => 18 | 242 => 19 | 119 => 20 | 345 => 21 | 346 => 22 | 278 => 23 | n => n, fun | 9 => 9 | 5 => 5 | 4 => 4 | 3 => 3 | 37 => 30 | 21 => 21 | 105 => 41 | 46 => 39 | 119 => 46 | 0 => 0 | 139 => 49 | 138 => 48 | 49 => 50 | 234 => 51 | 131 => 52 | 51 => 54 | 236 => 55 | n => n, fun | 3 => 0 | 4 => 1 | 20 => 2 | 21 => 3 | 22 => 4 | 23 => 5 | 24 => 6 | n => n⟩
theorem Tryd.lays177 : Go.Proofs.Lays.n177 Tryd.prog Tryd.lays177_ren := {
  mixed := by kernel_rfl
  f119 := Tryd.func20.trans (congrArg some (by kernel_rfl))
  f177 := Tryd.func8.trans (congrArg some (by kernel_rfl))
  f197 := Tryd.func14.trans (congrArg some (by kernel_rfl))
  f242 := Tryd.func19.trans (congrArg some (by kernel_rfl))
  f250 := Tryd.func12.trans (congrArg some (by kernel_rfl))
  f260 := Tryd.func16.trans (congrArg some (by kernel_rfl))
  f278 := Tryd.func23.trans (congrArg some (by kernel_rfl))
  f289 := Tryd.func13.trans (congrArg some (by kernel_rfl))
  f323 := Tryd.func15.trans (congrArg some (by kernel_rfl))
  f339 := Tryd.func17.trans (congrArg some (by kernel_rfl))
  f340 := Tryd.func18.trans (congrArg some (by kernel_rfl))
  f345 := Tryd.func21.trans (congrArg some (by kernel_rfl))
  f346 := Tryd.func22.trans (congrArg some (by kernel_rfl))
  t0 := Tryd.underlying0
  a0 := Tryd.isAgg0
  z0 := Tryd.sizeOf0
  v0 := Tryd.zeroValue0
  t3 := Tryd.underlying3
  a3 := Tryd.isAgg3
  z3 := Tryd.sizeOf3
  v3 := Tryd.zeroValue3
  t4 := Tryd.underlying4
  a4 := Tryd.isAgg4
  z4 := Tryd.sizeOf4
  v4 := Tryd.zeroValue4
  t5 := Tryd.underlying5
  a5 := Tryd.isAgg5
  z5 := Tryd.sizeOf5
  v5 := Tryd.zeroValue5
  t9 := Tryd.underlying9
  a9 := Tryd.isAgg9
  z9 := Tryd.sizeOf9
  v9 := Tryd.zeroValue9
  t21 := Tryd.underlying21
  a21 := Tryd.isAgg21
  z21 := Tryd.sizeOf21
  v21 := Tryd.zeroValue21
  t37 := Tryd.underlying30
  a37 := Tryd.isAgg30
  z37 := Tryd.sizeOf30
  v37 := Tryd.zeroValue30
  t46 := Tryd.underlying39
  a46 := Tryd.isAgg39
  z46 := Tryd.sizeOf39
  v46 := Tryd.zeroValue39
  t49 := Tryd.underlying50
  a49 := Tryd.isAgg50
  z49 := Tryd.sizeOf50
  v49 := Tryd.zeroValue50
  t51 := Tryd.underlying54
  a51 := Tryd.isAgg54
  z51 := Tryd.sizeOf54
  v51 := Tryd.zeroValue54
  t105 := Tryd.underlying41
  a105 := Tryd.isAgg41
  z105 := Tryd.sizeOf41
  v105 := Tryd.zeroValue41
  t119 := Tryd.underlying46
  a119 := Tryd.isAgg46
  z119 := Tryd.sizeOf46
  t131 := Tryd.underlying52
  a131 := Tryd.isAgg52
  z131 := Tryd.sizeOf52
  v131 := Tryd.zeroValue52
  t138 := Tryd.underlying48
  a138 := Tryd.isAgg48
  z138 := Tryd.sizeOf48
  v138 := Tryd.zeroValue48
  t139 := Tryd.underlying49
  a139 := Tryd.isAgg49
  z139 := Tryd.sizeOf49
  v139 := Tryd.zeroValue49
  t234 := Tryd.underlying51
  a234 := Tryd.isAgg51
  z234 := Tryd.sizeOf51
  v234 := Tryd.zeroValue51
  t236 := Tryd.underlying55
  a236 := Tryd.isAgg55
  z236 := Tryd.sizeOf55
  v236 := Tryd.zeroValue55
  g3 := by kernel_rfl
  g4 := by kernel_rfl
  g20 := by kernel_rfl
  g21 := by kernel_rfl
  g22 := by kernel_rfl
  g23 := by kernel_rfl
  g24 := by kernel_rfl }
open Go.RowKit in
/-- **strconv.Quote AT EVERY STRING, VALID UTF-8 OR NOT** (of at most some 2^43 bytes: ten bytes may come of one): 'strOfNums (Lib.quoteZ T s)': Derived/Lib/QuoteLoop.lean: a row of Lean a statement of Go. Of what was there nothing has turned. (LAID: no walk: one application.) -/
theorem Tryd.strconv_Quote (T : Lib.PrintTabs) (s : ByteArray) (w : World) (hlen : 10 * s.size + 12 ≤ 140737488355328) (hT : Lib.PrintTabsAt 2 3 4 5 T w) (hU : Lib.Utf8Tabs 0 1 w) :
    Calls Tryd.prog 8 #[.string s] w fun e w' => e = .returned (.string (strOfNums (Lib.quoteZ T s))) ∧ Below w.heap.size w w' := Any.strconv_Quote Tryd.lays177 (by kernel_rfl) T s w hlen hT hU
end Go.Proofs
