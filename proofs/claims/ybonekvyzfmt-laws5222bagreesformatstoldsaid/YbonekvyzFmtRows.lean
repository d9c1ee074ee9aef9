/-
  No cell of these rows narrows 'for every input' (looked for: loops, veiled, ifaces, maps, wideKeys, modest, calm, conditions, laid).
  DERIVED. THE GIVEN ROWS OF THIS SEAT. 1 by the template 'for every input the law returns true; each argument reads behind the call as it read before'; 0 by the template 'total and deterministic' (their statements: YbonekvyzFmtTotals.lean).
  GIVEN WITH THE SEED: the statements are not yours to turn. If you find one false, say at which input.
  Laid BY PROGRAM, IN A SANDBOX (cutbox-rows.mjs): the forced cells as the released guide's own fill.sh prints them over the translation 301e0b85862b3ea1… (all of the seat's roots in one cut). By AI agents, Wed Nov 11 2026. No macro, syntax, notation, axiom, sorry.
-/
import Derived.Test.YbonekvyzFmtChecked
import GoSem.Claim
import GoSem.ClaimJoined
import GoSem.ClaimMapViews
import Derived.JoinedTies
import Derived.KernelRfl
namespace Go.Proofs.YbonekvyzFmt
/- THE CELL 'sum', in the pinned program and in every row, IS THE sha256 OF THE DUMP (.gsa) THAT YbonekvyzFmtProg.lean LOADS. Nothing in Lean hashes anything: it is a label: what it is worth is what the hold of that sum in a sandbox is worth. -/
noncomputable def Ybgv.pinned : Pinned := { name := "ybonekvyzfmt", sum := "301e0b85862b3ea13e44ad8a2367649090023a3c1a6803a0d3e756c751da523a", checked := Ybgv.checked }
namespace Rows
def none {H : Type} : Left H := { results := [], args := [] }

/-- 'windowpane.LawS5222BAgreesFormats': WHATEVER THE INPUT: true; the input reads as it did. -/
def lawS5222BAgreesFormatsSpec : ChangeSpec := { name := "lawS5222BAgreesFormats", fn := fun _ => fun
  | [d] => { results := [.lit (.bool true)], args := [d] }
  | _ => none }
def lawS5222BAgreesFormatsRow : OpenClaim := { program := "ybonekvyzfmt", sum := "301e0b85862b3ea13e44ad8a2367649090023a3c1a6803a0d3e756c751da523a", func := "example.com/windowpane/windowpane.LawS5222BAgreesFormats", spec := "lawS5222BAgreesFormats", stops := ["fmt.errorf"], inPlace := ["fmt.errorf"], apart := false }
/-- NO THEOREM (fmt's text is open here; it may be false): for the released tool's asking of the row's closed facts alone. THE STATEMENT IS 'LawS5222BAgreesFormatsToldSaid' (YbonekvyzFmtCards.lean). -/
def LawS5222BAgreesFormatsFormAsk : Prop := lawS5222BAgreesFormatsRow.holds Ybgv.pinned (OpenSpec.ofChange lawS5222BAgreesFormatsSpec)

/-- ITS FALSE NEIGHBOUR: 'it returns false'. Refute it at one input. -/
def lawS5222BAgreesFormatsWrong : ChangeSpec := { name := "lawS5222BAgreesFormats", fn := fun _ => fun
  | [d] => { results := [.lit (.bool false)], args := [d] }
  | _ => none }
def LawS5222BAgreesFormatsWrongFormAsk : Prop := lawS5222BAgreesFormatsRow.holds Ybgv.pinned (OpenSpec.ofChange lawS5222BAgreesFormatsWrong)

end Rows
end Go.Proofs.YbonekvyzFmt
