/-
  DERIVED. GIVEN WITH THE SEED: THE PROGRAM's TIES (one call each: nine closed facts by the kernel) AND EACH ROW's TIE, after the 31st guide's Derived/Test/Toyas{Tie, Card}.lean. No idea stands in it: it is a product of the set-up. Laid BY PROGRAM, IN A SANDBOX (cutbox-door.mjs). By AI agents, Wed Nov 11 2026. No macro, syntax, notation, axiom, sorry.
-/
import Derived.Test.Qxb6612991aDoorRRRows
import Derived.LaidByTextLater
import Derived.SevenTiedAt
import Derived.LaidSub
import Derived.LaidOnce
namespace Go.Proofs.Qxb6612991aDoorRR
open Go
set_option maxRecDepth 100000
theorem seatTie1 : Tryd.prog.laidByTextLater [("example.com/pred5/pred5.colorTypes", Rows.laid_example_com_pred5_pred5_colorTypes)] [.mapped] true :=
  Program.laidByTextLater_by_one 49 8 6 (by kernel_rfl) (by kernel_rfl) (by kernel_rfl) (by kernel_rfl) (by kernel_rfl) (by kernel_rfl) (fun _ _ => by kernel_rfl)
theorem noOwnUnsafe : Tryd.pinned.checked.prog.headLifts.contains "ownunsafe" = false := by kernel_rfl
theorem tie : Tryd.prog.laidByTextLater [("example.com/pred5/pred5.colorTypes", Rows.laid_example_com_pred5_pred5_colorTypes)] [.mapped] true :=
  Program.laidByTextLater.sub seatTie1 ["example.com/pred5/pred5.colorTypes"] (by kernel_rfl) (by kernel_rfl)
theorem fnNewColorReaderShapes_row_tie : Rows.fnNewColorReaderShapesRow.laidByTextAt .later Tryd.pinned [.mapped] true :=
  OpenClaim.laidByTextAt_later rfl rfl tie noOwnUnsafe
theorem fnNewColorReaderOwnsItsBuffers_row_tie : Rows.fnNewColorReaderOwnsItsBuffersRow.laidByTextAt .later Tryd.pinned [.mapped] true :=
  OpenClaim.laidByTextAt_later rfl rfl tie noOwnUnsafe
end Go.Proofs.Qxb6612991aDoorRR
