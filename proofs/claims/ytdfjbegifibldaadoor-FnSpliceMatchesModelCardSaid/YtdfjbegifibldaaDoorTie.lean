/-
  DERIVED. GIVEN WITH THE SEED: THE PROGRAM's TIES (one call each: nine closed facts by the kernel) AND EACH ROW's TIE, after the 31st guide's Derived/Test/Toyas{Tie, Card}.lean. No idea stands in it: it is a product of the set-up. Laid BY PROGRAM, IN A SANDBOX (cutbox-door.mjs). By AI agents, Wed Nov 11 2026. No macro, syntax, notation, axiom, sorry.
-/
import Derived.Test.YtdfjbegifibldaaDoorRows
import Derived.LaidByTextLater
import Derived.SevenTiedAt
import Derived.LaidSub
import Derived.LaidOnce
namespace Go.Proofs.YtdfjbegifibldaaDoor
open Go
set_option maxRecDepth 100000
theorem seatTie1 : Tryd.prog.laidByTextLater [("github.com/d5/tengo/v2.ErrIndexOutOfBounds", Rows.laid_github_com_d5_tengo_v2_ErrIndexOutOfBounds), ("github.com/d5/tengo/v2.ErrWrongNumArguments", Rows.laid_github_com_d5_tengo_v2_ErrWrongNumArguments)] [.sentinel, .sentinel] true :=
  Program.laidByTextLater_by_one 66 8 2 (by kernel_rfl) (by kernel_rfl) (by kernel_rfl) (by kernel_rfl) (by kernel_rfl) (by kernel_rfl) (fun _ _ => by kernel_rfl)
theorem noOwnUnsafe : Tryd.pinned.checked.prog.headLifts.contains "ownunsafe" = false := by kernel_rfl
theorem tie : Tryd.prog.laidByTextLater [("github.com/d5/tengo/v2.ErrIndexOutOfBounds", Rows.laid_github_com_d5_tengo_v2_ErrIndexOutOfBounds), ("github.com/d5/tengo/v2.ErrWrongNumArguments", Rows.laid_github_com_d5_tengo_v2_ErrWrongNumArguments)] [.sentinel, .sentinel] true :=
  Program.laidByTextLater.sub seatTie1 ["github.com/d5/tengo/v2.ErrIndexOutOfBounds", "github.com/d5/tengo/v2.ErrWrongNumArguments"] (by kernel_rfl) (by kernel_rfl)
theorem fnSpliceMatchesModel_row_tie : Rows.fnSpliceMatchesModelRow.laidByTextAt .later Tryd.pinned [.sentinel, .sentinel] true :=
  OpenClaim.laidByTextAt_later rfl rfl tie noOwnUnsafe
theorem fnSpliceDefaultsTable_row_tie : Rows.fnSpliceDefaultsTableRow.laidByTextAt .later Tryd.pinned [.sentinel, .sentinel] true :=
  OpenClaim.laidByTextAt_later rfl rfl tie noOwnUnsafe
theorem fnSpliceMatchesModelUpto_row_tie : Rows.fnSpliceMatchesModelUptoRow.laidByTextAt .later Tryd.pinned [.sentinel, .sentinel] true :=
  OpenClaim.laidByTextAt_later rfl rfl tie noOwnUnsafe
theorem fnSpliceDefaultsTableUpto_row_tie : Rows.fnSpliceDefaultsTableUptoRow.laidByTextAt .later Tryd.pinned [.sentinel, .sentinel] true :=
  OpenClaim.laidByTextAt_later rfl rfl tie noOwnUnsafe
end Go.Proofs.YtdfjbegifibldaaDoor
