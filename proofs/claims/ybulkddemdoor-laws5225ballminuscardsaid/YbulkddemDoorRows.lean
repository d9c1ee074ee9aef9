/-
  NARROWER THAN 'FOR EVERY INPUT', by the rows' own cells (each row's printed sentence says how): LawS5225BModel: laid · LawS5225BAllMinus: ifaces, laid.
  DERIVED. THE GIVEN ROWS OF THIS SEAT. 2 by the template 'for every input the law returns true; each argument reads behind the call as it read before'; 0 by the template 'total and deterministic' (their statements: YbulkddemDoorTotals.lean).
  GIVEN WITH THE SEED: the statements are not yours to turn. If you find one false, say at which input.
  Laid BY PROGRAM, IN A SANDBOX (cutbox-rows.mjs): the forced cells as the released guide's own fill.sh prints them over the translation 8dbcc708403224dd… (all of the seat's roots in one cut). By AI agents, Wed Nov 11 2026. No macro, syntax, notation, axiom, sorry.
-/
import Derived.Test.YbulkddemDoorChecked
import GoSem.Claim
import GoSem.ClaimJoined
import GoSem.ClaimMapViews
import Derived.JoinedTies
import Derived.KernelRfl
namespace Go.Proofs.YbulkddemDoor
/- THE CELL 'sum', in the pinned program and in every row, IS THE sha256 OF THE DUMP (.gsa) THAT YbulkddemDoorProg.lean LOADS. Nothing in Lean hashes anything: it is a label: what it is worth is what the hold of that sum in a sandbox is worth. -/
noncomputable def Ybad.pinned : Pinned := { name := "ybulkddemdoor", sum := "8dbcc708403224dd1c379475d26393e32818e0396b98e5f65d2bc6176cc01239", checked := Ybad.checked }
namespace Rows
def none {H : Type} : Left H := { results := [], args := [] }

/- WHAT THE LISTED PACKAGE-LEVEL VARIABLES READ AS WHEN THE CALL BEGINS. Each datum BY PROGRAM (the guide's laid-datum.mjs) off the statement by which the dump's own 'gosem.cut.vars' lays the variable. In a bare row this is a premise. The card (YbulkddemDoorCards.lean) ties it to the program's text. -/
def laid_math_bits_deBruijn64tab {H : Type} : DataW H := .agg [.lit (.int .u8 0), .lit (.int .u8 1), .lit (.int .u8 56), .lit (.int .u8 2), .lit (.int .u8 57), .lit (.int .u8 49), .lit (.int .u8 28), .lit (.int .u8 3), .lit (.int .u8 61), .lit (.int .u8 58), .lit (.int .u8 42), .lit (.int .u8 50), .lit (.int .u8 38), .lit (.int .u8 29), .lit (.int .u8 17), .lit (.int .u8 4), .lit (.int .u8 62), .lit (.int .u8 47), .lit (.int .u8 59), .lit (.int .u8 36), .lit (.int .u8 45), .lit (.int .u8 43), .lit (.int .u8 51), .lit (.int .u8 22), .lit (.int .u8 53), .lit (.int .u8 39), .lit (.int .u8 33), .lit (.int .u8 30), .lit (.int .u8 24), .lit (.int .u8 18), .lit (.int .u8 12), .lit (.int .u8 5), .lit (.int .u8 63), .lit (.int .u8 55), .lit (.int .u8 48), .lit (.int .u8 27), .lit (.int .u8 60), .lit (.int .u8 41), .lit (.int .u8 37), .lit (.int .u8 16), .lit (.int .u8 46), .lit (.int .u8 35), .lit (.int .u8 44), .lit (.int .u8 21), .lit (.int .u8 52), .lit (.int .u8 32), .lit (.int .u8 23), .lit (.int .u8 11), .lit (.int .u8 54), .lit (.int .u8 26), .lit (.int .u8 40), .lit (.int .u8 15), .lit (.int .u8 34), .lit (.int .u8 20), .lit (.int .u8 31), .lit (.int .u8 10), .lit (.int .u8 25), .lit (.int .u8 14), .lit (.int .u8 19), .lit (.int .u8 9), .lit (.int .u8 13), .lit (.int .u8 8), .lit (.int .u8 7), .lit (.int .u8 6)]
def laid_example_com_rookery_rookery_internal_diag_kinds {H : Type} : DataW H := .slice [.agg [.lit (.string [83, 84, 65, 84, 85, 83, 95, 73, 78, 70, 79]), .lit (.int .i64 0)], .agg [.lit (.string [82, 79, 85, 84, 73, 78, 71, 95, 84, 65, 66, 76, 69, 95, 83, 73, 90, 69]), .lit (.int .i64 1)], .agg [.lit (.string [80, 82, 79, 67, 69, 83, 83, 95, 80, 79, 87, 69, 82]), .lit (.int .i64 2)], .agg [.lit (.string [85, 80, 83, 84, 82, 69, 65, 77, 95, 66, 65, 78, 68, 87, 73, 68, 84, 72]), .lit (.int .i64 2)], .agg [.lit (.string [68, 79, 87, 78, 83, 84, 82, 69, 65, 77, 95, 66, 65, 78, 68, 87, 73, 68, 84, 72]), .lit (.int .i64 2)], .agg [.lit (.string [83, 79, 70, 84, 87, 65, 82, 69, 95, 86, 69, 82, 83, 73, 79, 78]), .lit (.int .i64 3)], .agg [.lit (.string [77, 65, 67, 72, 73, 78, 69, 95, 85, 80, 84, 73, 77, 69]), .lit (.int .i64 2)], .agg [.lit (.string [65, 80, 80, 95, 85, 80, 84, 73, 77, 69]), .lit (.int .i64 2)], .agg [.lit (.string [77, 69, 77, 79, 82, 89, 95, 70, 79, 79, 84, 80, 82, 73, 78, 84]), .lit (.int .i64 2)], .agg [.lit (.string [68, 65, 84, 65, 83, 73, 90, 69, 95, 83, 84, 79, 82, 69, 68]), .lit (.int .i64 2)], .agg [.lit (.string [73, 78, 83, 84, 65, 78, 67, 69, 83, 95, 83, 84, 79, 82, 69, 68]), .lit (.int .i64 4)], .agg [.lit (.string [77, 69, 83, 83, 65, 71, 69, 83, 95, 83, 69, 78, 84, 95, 82, 67, 86, 68]), .lit (.int .i64 5)], .agg [.lit (.string [69, 87, 77, 65, 95, 66, 89, 84, 69, 83, 95, 83, 69, 78, 84]), .lit (.int .i64 1)], .agg [.lit (.string [69, 87, 77, 65, 95, 66, 89, 84, 69, 83, 95, 82, 67, 86, 68]), .lit (.int .i64 1)], .agg [.lit (.string [85, 78, 68, 69, 82, 76, 65, 89, 95, 72, 79, 80]), .lit (.int .i64 0)], .agg [.lit (.string [66, 65, 84, 84, 69, 82, 89, 95, 83, 84, 65, 84, 85, 83]), .lit (.int .i64 0)]] []
def laid_example_com_rookery_rookery_internal_diag_ErrReservedFlags {H : Type} : DataW H := .iface "*errors.errorString" (.ptr (.agg [.lit (.string [100, 105, 97, 103, 58, 32, 98, 105, 116, 115, 32, 48, 32, 97, 110, 100, 32, 54, 51, 32, 111, 102, 32, 116, 104, 101, 32, 102, 108, 97, 103, 115, 32, 97, 114, 101, 32, 115, 101, 116, 32, 111, 110, 108, 121, 32, 119, 104, 101, 110, 32, 97, 108, 108, 32, 54, 52, 32, 97, 114, 101])]))

/-- 'diag.LawS5225BModel': WHATEVER THE INPUT: true; the input reads as it did. -/
def lawS5225BModelSpec : ChangeSpec := { name := "lawS5225BModel", vars := ["example.com/rookery/rookery/internal/diag.kinds"], fn := fun _ => fun
  | [d1, d2, g1] => { results := [.lit (.bool true)], args := [d1, d2], vars := [g1] }
  | _ => none }
def lawS5225BModelRow : OpenClaim := { program := "ybulkddemdoor", sum := "8dbcc708403224dd1c379475d26393e32818e0396b98e5f65d2bc6176cc01239", func := "example.com/rookery/rookery/internal/diag.LawS5225BModel", spec := "lawS5225BModel", named := ["example.com/rookery/rookery/internal/diag.kinds", "math/bits.deBruijn64tab"], apart := false, laid := [("math/bits.deBruijn64tab", laid_math_bits_deBruijn64tab), ("example.com/rookery/rookery/internal/diag.kinds", laid_example_com_rookery_rookery_internal_diag_kinds)] }
def LawS5225BModelSaid : Prop := lawS5225BModelRow.holds Ybad.pinned (OpenSpec.ofChange lawS5225BModelSpec)

/-- ITS FALSE NEIGHBOUR: 'it returns false'. Refute it at one input. -/
def lawS5225BModelWrong : ChangeSpec := { name := "lawS5225BModel", vars := ["example.com/rookery/rookery/internal/diag.kinds"], fn := fun _ => fun
  | [d1, d2, g1] => { results := [.lit (.bool false)], args := [d1, d2], vars := [g1] }
  | _ => none }
def LawS5225BModelWrongFalsely : Prop := lawS5225BModelRow.holds Ybad.pinned (OpenSpec.ofChange lawS5225BModelWrong)

/-- 'diag.LawS5225BAllMinus': WHATEVER THE INPUT: true; the input reads as it did. -/
def lawS5225BAllMinusSpec : ChangeSpec := { name := "lawS5225BAllMinus", vars := ["example.com/rookery/rookery/internal/diag.kinds", "example.com/rookery/rookery/internal/diag.ErrReservedFlags"], fn := fun _ => fun
  | [d, g1, g2] => { results := [.lit (.bool true)], args := [d], vars := [g1, g2] }
  | _ => none }
def lawS5225BAllMinusRow : OpenClaim := { program := "ybulkddemdoor", sum := "8dbcc708403224dd1c379475d26393e32818e0396b98e5f65d2bc6176cc01239", func := "example.com/rookery/rookery/internal/diag.LawS5225BAllMinus", spec := "lawS5225BAllMinus", named := ["example.com/rookery/rookery/internal/diag.kinds", "math/bits.deBruijn64tab", "example.com/rookery/rookery/internal/diag.ErrReservedFlags"], ifaces := true, apart := false, laid := [("math/bits.deBruijn64tab", laid_math_bits_deBruijn64tab), ("example.com/rookery/rookery/internal/diag.kinds", laid_example_com_rookery_rookery_internal_diag_kinds), ("example.com/rookery/rookery/internal/diag.ErrReservedFlags", laid_example_com_rookery_rookery_internal_diag_ErrReservedFlags)] }
def LawS5225BAllMinusSaid : Prop := lawS5225BAllMinusRow.holds Ybad.pinned (OpenSpec.ofChange lawS5225BAllMinusSpec)

/-- ITS FALSE NEIGHBOUR: 'it returns false'. Refute it at one input. -/
def lawS5225BAllMinusWrong : ChangeSpec := { name := "lawS5225BAllMinus", vars := ["example.com/rookery/rookery/internal/diag.kinds", "example.com/rookery/rookery/internal/diag.ErrReservedFlags"], fn := fun _ => fun
  | [d, g1, g2] => { results := [.lit (.bool false)], args := [d], vars := [g1, g2] }
  | _ => none }
def LawS5225BAllMinusWrongFalsely : Prop := lawS5225BAllMinusRow.holds Ybad.pinned (OpenSpec.ofChange lawS5225BAllMinusWrong)

end Rows
end Go.Proofs.YbulkddemDoor
