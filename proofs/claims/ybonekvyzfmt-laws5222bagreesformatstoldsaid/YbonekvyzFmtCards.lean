/-
  DERIVED. GIVEN WITH THE SEED: THE CARDS: each row of YbonekvyzFmtRows.lean that lists a variable, with what it lists TIED to the program's text (the seventh form; the later family's looks); each row that meets fmt, with fmt's text TOLD by the authors' own Lean function (tested against real Go, not proved from fmt's source: count such statements apart). THE CARD IS WHAT COUNTS. Prove the row's statement (the work); the ties are given (YbonekvyzFmtTie.lean); close each card by the builder's one call (the guide's Derived/Test/ToyasCard.lean, 'card_holds'). Laid BY PROGRAM, IN A SANDBOX (cutbox-door.mjs). By AI agents, Wed Nov 11 2026. No macro, syntax, notation, axiom, sorry.
-/
import Derived.Test.YbonekvyzFmtRows
import GoSem.ClaimSeven
namespace Go.Proofs.YbonekvyzFmt
namespace Rows

/-- THE TOLD CARD OF 'windowpane.LawS5222BAgreesFormats'. -/
def lawS5222BAgreesFormatsCard : Claim7 := { stood := { row := lawS5222BAgreesFormatsRow, standIns := [], harness := (true, "dbb276ffa2d020dc2bce407944e75c3b440f933a14dc3390eed6af4e3154fce4"), looks := false }, told := true, goes := false }
def LawS5222BAgreesFormatsToldSaid : Prop := Claim7.holds Ybgv.pinned (.plain (OpenSpec.ofChange lawS5222BAgreesFormatsSpec)) lawS5222BAgreesFormatsCard
/-- ITS FALSE NEIGHBOUR. Refute it at one input. -/
def LawS5222BAgreesFormatsToldWrongFalsely : Prop := Claim7.holds Ybgv.pinned (.plain (OpenSpec.ofChange lawS5222BAgreesFormatsWrong)) lawS5222BAgreesFormatsCard
end Rows
end Go.Proofs.YbonekvyzFmt
