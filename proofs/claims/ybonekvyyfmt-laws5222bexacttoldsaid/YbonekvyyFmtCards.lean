/-
  DERIVED. GIVEN WITH THE SEED: THE CARDS: each row of YbonekvyyFmtRows.lean that lists a variable, with what it lists TIED to the program's text (the seventh form; the later family's looks); each row that meets fmt, with fmt's text TOLD by the authors' own Lean function (tested against real Go, not proved from fmt's source: count such statements apart). THE CARD IS WHAT COUNTS. Prove the row's statement (the work); the ties are given (YbonekvyyFmtTie.lean); close each card by the builder's one call (the guide's Derived/Test/ToyasCard.lean, 'card_holds'). Laid BY PROGRAM, IN A SANDBOX (cutbox-door.mjs). By AI agents, Wed Nov 11 2026. No macro, syntax, notation, axiom, sorry.
-/
import Derived.Test.YbonekvyyFmtRows
import GoSem.ClaimSeven
namespace Go.Proofs.YbonekvyyFmt
namespace Rows

/-- THE TOLD CARD OF 'windowpane.LawS5222BExact'. -/
def lawS5222BExactCard : Claim7 := { stood := { row := lawS5222BExactRow, standIns := [], harness := (true, "455176d965b4d7c944d87c20e8bcef70e7839b74ecc8063460ff3110baed0b7c"), looks := false }, told := true, goes := false }
def LawS5222BExactToldSaid : Prop := Claim7.holds Ybgu.pinned (.plain (OpenSpec.ofChange lawS5222BExactSpec)) lawS5222BExactCard
/-- ITS FALSE NEIGHBOUR. Refute it at one input. -/
def LawS5222BExactToldWrongFalsely : Prop := Claim7.holds Ybgu.pinned (.plain (OpenSpec.ofChange lawS5222BExactWrong)) lawS5222BExactCard
end Rows
end Go.Proofs.YbonekvyyFmt
