/-
  DERIVED. GIVEN WITH THE SEED: THE PROGRAM's TIES (one call each: nine closed facts by the kernel) AND EACH ROW's TIE, after the 31st guide's Derived/Test/Toyas{Tie, Card}.lean. No idea stands in it: it is a product of the set-up. Laid BY PROGRAM, IN A SANDBOX (cutbox-door.mjs). By AI agents, Wed Nov 11 2026. No macro, syntax, notation, axiom, sorry.
-/
import Derived.Test.YbulkddemDoorRows
import Derived.LaidByTextLater
import Derived.SevenTiedAt
import Derived.LaidSub
import Derived.LaidOnce
namespace Go.Proofs.YbulkddemDoor
open Go
set_option maxRecDepth 100000
theorem seatTie1 : Ybad.prog.laidByTextLater [("math/bits.deBruijn64tab", Rows.laid_math_bits_deBruijn64tab), ("example.com/rookery/rookery/internal/diag.kinds", Rows.laid_example_com_rookery_rookery_internal_diag_kinds), ("example.com/rookery/rookery/internal/diag.ErrReservedFlags", Rows.laid_example_com_rookery_rookery_internal_diag_ErrReservedFlags)] [.data, .data, .sentinel] true :=
  Program.laidByTextLater_by_one 54 8 65 (by kernel_rfl) (by kernel_rfl) (by kernel_rfl) (by kernel_rfl) (by kernel_rfl) (by kernel_rfl) (fun _ _ => by kernel_rfl)
theorem noOwnUnsafe : Ybad.pinned.checked.prog.headLifts.contains "ownunsafe" = false := by kernel_rfl
theorem tie : Ybad.prog.laidByTextLater [("math/bits.deBruijn64tab", Rows.laid_math_bits_deBruijn64tab), ("example.com/rookery/rookery/internal/diag.kinds", Rows.laid_example_com_rookery_rookery_internal_diag_kinds)] [.data, .data] true :=
  Program.laidByTextLater.sub seatTie1 ["math/bits.deBruijn64tab", "example.com/rookery/rookery/internal/diag.kinds"] (by kernel_rfl) (by kernel_rfl)
theorem lawS5225BModel_row_tie : Rows.lawS5225BModelRow.laidByTextAt .later Ybad.pinned [.data, .data] true :=
  OpenClaim.laidByTextAt_later rfl rfl tie noOwnUnsafe
theorem tie2 : Ybad.prog.laidByTextLater [("math/bits.deBruijn64tab", Rows.laid_math_bits_deBruijn64tab), ("example.com/rookery/rookery/internal/diag.kinds", Rows.laid_example_com_rookery_rookery_internal_diag_kinds), ("example.com/rookery/rookery/internal/diag.ErrReservedFlags", Rows.laid_example_com_rookery_rookery_internal_diag_ErrReservedFlags)] [.data, .data, .sentinel] true :=
  Program.laidByTextLater.sub seatTie1 ["math/bits.deBruijn64tab", "example.com/rookery/rookery/internal/diag.kinds", "example.com/rookery/rookery/internal/diag.ErrReservedFlags"] (by kernel_rfl) (by kernel_rfl)
theorem lawS5225BAllMinus_row_tie : Rows.lawS5225BAllMinusRow.laidByTextAt .later Ybad.pinned [.data, .data, .sentinel] true :=
  OpenClaim.laidByTextAt_later rfl rfl tie2 noOwnUnsafe
end Go.Proofs.YbulkddemDoor
