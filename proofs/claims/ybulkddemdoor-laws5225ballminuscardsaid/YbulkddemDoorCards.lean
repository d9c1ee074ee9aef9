/-
  DERIVED. GIVEN WITH THE SEED: THE CARDS: each row of YbulkddemDoorRows.lean that lists a variable, with what it lists TIED to the program's text (the seventh form; the later family's looks); each row that meets fmt, with fmt's text TOLD by the authors' own Lean function (tested against real Go, not proved from fmt's source: count such statements apart). THE CARD IS WHAT COUNTS. Prove the row's statement (the work); the ties are given (YbulkddemDoorTie.lean); close each card by the builder's one call (the guide's Derived/Test/ToyasCard.lean, 'card_holds'). Laid BY PROGRAM, IN A SANDBOX (cutbox-door.mjs). By AI agents, Wed Nov 11 2026. No macro, syntax, notation, axiom, sorry.
-/
import Derived.Test.YbulkddemDoorRows
import GoSem.ClaimSeven
namespace Go.Proofs.YbulkddemDoor
namespace Rows

/-- THE TIED CARD OF 'diag.LawS5225BModel'. -/
def lawS5225BModelCard : Claim7 := { stood := { row := lawS5225BModelRow, standIns := [], harness := (true, "2c86f54fa647c4bfc00e052d51fc640983a2cc07bcef256b8890357ad78e0f8b"), looks := false }, kinds := [], alts := [], laidByText := true, laidKinds := [.data, .data], laidTests := true, laidLooks := .later }
def LawS5225BModelCardSaid : Prop := Claim7.holds Ybad.pinned (.plain (OpenSpec.ofChange lawS5225BModelSpec)) lawS5225BModelCard

/-- THE TIED CARD OF 'diag.LawS5225BAllMinus'. -/
def lawS5225BAllMinusCard : Claim7 := { stood := { row := lawS5225BAllMinusRow, standIns := [], harness := (true, "2c86f54fa647c4bfc00e052d51fc640983a2cc07bcef256b8890357ad78e0f8b"), looks := false }, kinds := [], alts := [], laidByText := true, laidKinds := [.data, .data, .sentinel], laidTests := true, laidLooks := .later }
def LawS5225BAllMinusCardSaid : Prop := Claim7.holds Ybad.pinned (.plain (OpenSpec.ofChange lawS5225BAllMinusSpec)) lawS5225BAllMinusCard
end Rows
end Go.Proofs.YbulkddemDoor
