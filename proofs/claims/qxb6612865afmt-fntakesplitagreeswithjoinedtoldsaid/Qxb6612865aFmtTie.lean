/-
  DERIVED. GIVEN WITH THE SEED: THE PROGRAM's TIES (one call each: nine closed facts by the kernel) AND EACH ROW's TIE, after the 31st guide's Derived/Test/Toyas{Tie, Card}.lean. No idea stands in it: it is a product of the set-up. Laid BY PROGRAM, IN A SANDBOX (cutbox-door.mjs). By AI agents, Wed Nov 11 2026. No macro, syntax, notation, axiom, sorry.
-/
import Derived.Test.Qxb6612865aFmtRows
import Derived.LaidByTextLater
import Derived.SevenTiedAt
import Derived.LaidSub
import Derived.LaidOnce
namespace Go.Proofs.Qxb6612865aFmt
open Go
set_option maxRecDepth 100000
theorem seatTie1 : Tryf.prog.laidByTextLater [("example.com/circlet/circlet.ErrValueSize", Rows.laid_example_com_circlet_circlet_ErrValueSize), ("example.com/circlet/circlet.ErrMemberSize", Rows.laid_example_com_circlet_circlet_ErrMemberSize), ("example.com/circlet/circlet.errMalformed", Rows.laid_example_com_circlet_circlet_errMalformed)] [.called, .called, .called] true :=
  Program.laidByTextLater_by_one 66 8 2 (by kernel_rfl) (by kernel_rfl) (by kernel_rfl) (by kernel_rfl) (by kernel_rfl) (by kernel_rfl) (fun _ _ => by kernel_rfl)
theorem noOwnUnsafe : Tryf.pinned.checked.prog.headLifts.contains "ownunsafe" = false := by kernel_rfl
theorem tie : Tryf.prog.laidByTextLater [("example.com/circlet/circlet.errMalformed", Rows.laid_example_com_circlet_circlet_errMalformed)] [.called] true :=
  Program.laidByTextLater.sub seatTie1 ["example.com/circlet/circlet.errMalformed"] (by kernel_rfl) (by kernel_rfl)
theorem fnTakeScriptMatchesCursor_row_tie : Rows.fnTakeScriptMatchesCursorRow.laidByTextAt .later Tryf.pinned [.called] true :=
  OpenClaim.laidByTextAt_later rfl rfl tie noOwnUnsafe
theorem fnTakeSplitAgreesWithJoined_row_tie : Rows.fnTakeSplitAgreesWithJoinedRow.laidByTextAt .later Tryf.pinned [.called] true :=
  OpenClaim.laidByTextAt_later rfl rfl tie noOwnUnsafe
theorem tie2 : Tryf.prog.laidByTextLater [("example.com/circlet/circlet.ErrValueSize", Rows.laid_example_com_circlet_circlet_ErrValueSize), ("example.com/circlet/circlet.ErrMemberSize", Rows.laid_example_com_circlet_circlet_ErrMemberSize), ("example.com/circlet/circlet.errMalformed", Rows.laid_example_com_circlet_circlet_errMalformed)] [.called, .called, .called] true :=
  Program.laidByTextLater.sub seatTie1 ["example.com/circlet/circlet.ErrValueSize", "example.com/circlet/circlet.ErrMemberSize", "example.com/circlet/circlet.errMalformed"] (by kernel_rfl) (by kernel_rfl)
theorem fnMemberScriptMatchesFrames_row_tie : Rows.fnMemberScriptMatchesFramesRow.laidByTextAt .later Tryf.pinned [.called, .called, .called] true :=
  OpenClaim.laidByTextAt_later rfl rfl tie2 noOwnUnsafe
theorem fnMemberResumesOnItsRest_row_tie : Rows.fnMemberResumesOnItsRestRow.laidByTextAt .later Tryf.pinned [.called, .called, .called] true :=
  OpenClaim.laidByTextAt_later rfl rfl tie2 noOwnUnsafe
end Go.Proofs.Qxb6612865aFmt
