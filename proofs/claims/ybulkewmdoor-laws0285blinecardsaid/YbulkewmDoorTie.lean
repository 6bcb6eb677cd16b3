/-
  DERIVED. GIVEN WITH THE SEED: THE PROGRAM's TIES (one call each: nine closed facts by the kernel) AND EACH ROW's TIE, after the 31st guide's Derived/Test/Toyas{Tie, Card}.lean. No idea stands in it: it is a product of the set-up. Laid BY PROGRAM, IN A SANDBOX (cutbox-door.mjs). By AI agents, Wed Nov 11 2026. No macro, syntax, notation, axiom, sorry.
-/
import Derived.Test.YbulkewmDoorRows
import Derived.LaidByTextLater
import Derived.SevenTiedAt
import Derived.LaidSub
import Derived.LaidOnce
namespace Go.Proofs.YbulkewmDoor
open Go
set_option maxRecDepth 100000
theorem seatTie1 : Ybad.prog.laidByTextLater [("encoding/csv.ErrBareQuote", Rows.laid_encoding_csv_ErrBareQuote), ("encoding/csv.ErrQuote", Rows.laid_encoding_csv_ErrQuote)] [.sentinel, .sentinel] true :=
  Program.laidByTextLater_by_one 47 8 2 (by kernel_rfl) (by kernel_rfl) (by kernel_rfl) (by kernel_rfl) (by kernel_rfl) (by kernel_rfl) (fun _ _ => by kernel_rfl)
theorem noOwnUnsafe : Ybad.pinned.checked.prog.headLifts.contains "ownunsafe" = false := by kernel_rfl
theorem tie : Ybad.prog.laidByTextLater [("encoding/csv.ErrBareQuote", Rows.laid_encoding_csv_ErrBareQuote)] [.sentinel] true :=
  Program.laidByTextLater.sub seatTie1 ["encoding/csv.ErrBareQuote"] (by kernel_rfl) (by kernel_rfl)
theorem lawS0285BStep_row_tie : Rows.lawS0285BStepRow.laidByTextAt .later Ybad.pinned [.sentinel] true :=
  OpenClaim.laidByTextAt_later rfl rfl tie noOwnUnsafe
theorem tie2 : Ybad.prog.laidByTextLater [("encoding/csv.ErrBareQuote", Rows.laid_encoding_csv_ErrBareQuote), ("encoding/csv.ErrQuote", Rows.laid_encoding_csv_ErrQuote)] [.sentinel, .sentinel] true :=
  Program.laidByTextLater.sub seatTie1 ["encoding/csv.ErrBareQuote", "encoding/csv.ErrQuote"] (by kernel_rfl) (by kernel_rfl)
theorem lawS0285BLine_row_tie : Rows.lawS0285BLineRow.laidByTextAt .later Ybad.pinned [.sentinel, .sentinel] true :=
  OpenClaim.laidByTextAt_later rfl rfl tie2 noOwnUnsafe
end Go.Proofs.YbulkewmDoor
