/-
  DERIVED. GIVEN WITH THE SEED: THE PROGRAM's TIES (one call each: nine closed facts by the kernel) AND EACH ROW's TIE, after the 31st guide's Derived/Test/Toyas{Tie, Card}.lean. No idea stands in it: it is a product of the set-up. Laid BY PROGRAM, IN A SANDBOX (cutbox-door.mjs). By AI agents, Wed Nov 11 2026. No macro, syntax, notation, axiom, sorry.
-/
import Derived.Test.YtmddbfcghddacaaDoorRows
import Derived.LaidByTextLater
import Derived.SevenTiedAt
import Derived.LaidSub
import Derived.LaidOnce
namespace Go.Proofs.YtmddbfcghddacaaDoor
open Go
set_option maxRecDepth 100000
theorem seatTie1 : Tryd.prog.laidByTextLater [("errors.errorType", Rows.laid_errors_errorType)] [.handle] true :=
  Program.laidByTextLater_by_one 16 8 2 (by kernel_rfl) (by kernel_rfl) (by kernel_rfl) (by kernel_rfl) (by kernel_rfl) (by kernel_rfl) (fun _ _ => by kernel_rfl)
theorem noOwnUnsafe : Tryd.pinned.checked.prog.headLifts.contains "ownunsafe" = false := by kernel_rfl
theorem tie : Tryd.prog.laidByTextLater [("errors.errorType", Rows.laid_errors_errorType)] [.handle] true :=
  Program.laidByTextLater.sub seatTie1 ["errors.errorType"] (by kernel_rfl) (by kernel_rfl)
theorem fnSteps_row_tie : Rows.fnStepsRow.laidByTextAt .later Tryd.pinned [.handle] true :=
  OpenClaim.laidByTextAt_later rfl rfl tie noOwnUnsafe
theorem fnZInside_row_tie : Rows.fnZInsideRow.laidByTextAt .later Tryd.pinned [.handle] true :=
  OpenClaim.laidByTextAt_later rfl rfl tie noOwnUnsafe
theorem fnInsertZ_row_tie : Rows.fnInsertZRow.laidByTextAt .later Tryd.pinned [.handle] true :=
  OpenClaim.laidByTextAt_later rfl rfl tie noOwnUnsafe
theorem fnNoRoom_row_tie : Rows.fnNoRoomRow.laidByTextAt .later Tryd.pinned [.handle] true :=
  OpenClaim.laidByTextAt_later rfl rfl tie noOwnUnsafe
theorem fnPlainZeros_row_tie : Rows.fnPlainZerosRow.laidByTextAt .later Tryd.pinned [.handle] true :=
  OpenClaim.laidByTextAt_later rfl rfl tie noOwnUnsafe
theorem fnRoom_row_tie : Rows.fnRoomRow.laidByTextAt .later Tryd.pinned [.handle] true :=
  OpenClaim.laidByTextAt_later rfl rfl tie noOwnUnsafe
theorem fnStepsUpto_row_tie : Rows.fnStepsUptoRow.laidByTextAt .later Tryd.pinned [.handle] true :=
  OpenClaim.laidByTextAt_later rfl rfl tie noOwnUnsafe
theorem fnZInsideUpto_row_tie : Rows.fnZInsideUptoRow.laidByTextAt .later Tryd.pinned [.handle] true :=
  OpenClaim.laidByTextAt_later rfl rfl tie noOwnUnsafe
theorem fnInsertZUpto_row_tie : Rows.fnInsertZUptoRow.laidByTextAt .later Tryd.pinned [.handle] true :=
  OpenClaim.laidByTextAt_later rfl rfl tie noOwnUnsafe
theorem fnNoRoomUpto_row_tie : Rows.fnNoRoomUptoRow.laidByTextAt .later Tryd.pinned [.handle] true :=
  OpenClaim.laidByTextAt_later rfl rfl tie noOwnUnsafe
theorem fnPlainZerosUpto_row_tie : Rows.fnPlainZerosUptoRow.laidByTextAt .later Tryd.pinned [.handle] true :=
  OpenClaim.laidByTextAt_later rfl rfl tie noOwnUnsafe
theorem fnRoomUpto_row_tie : Rows.fnRoomUptoRow.laidByTextAt .later Tryd.pinned [.handle] true :=
  OpenClaim.laidByTextAt_later rfl rfl tie noOwnUnsafe
end Go.Proofs.YtmddbfcghddacaaDoor
