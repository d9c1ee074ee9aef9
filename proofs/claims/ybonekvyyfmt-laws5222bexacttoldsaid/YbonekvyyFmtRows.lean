/-
  No cell of these rows narrows 'for every input' (looked for: loops, veiled, ifaces, maps, wideKeys, modest, calm, conditions, laid).
  DERIVED. THE GIVEN ROWS OF THIS SEAT. 1 by the template 'for every input the law returns true; each argument reads behind the call as it read before'; 0 by the template 'total and deterministic' (their statements: YbonekvyyFmtTotals.lean).
  GIVEN WITH THE SEED: the statements are not yours to turn. If you find one false, say at which input.
  Laid BY PROGRAM, IN A SANDBOX (cutbox-rows.mjs): the forced cells as the released guide's own fill.sh prints them over the translation 922fc77973463d4d… (all of the seat's roots in one cut). By AI agents, Wed Nov 11 2026. No macro, syntax, notation, axiom, sorry.
-/
import Derived.Test.YbonekvyyFmtChecked
import GoSem.Claim
import GoSem.ClaimJoined
import GoSem.ClaimMapViews
import Derived.JoinedTies
import Derived.KernelRfl
namespace Go.Proofs.YbonekvyyFmt
/- THE CELL 'sum', in the pinned program and in every row, IS THE sha256 OF THE DUMP (.gsa) THAT YbonekvyyFmtProg.lean LOADS. Nothing in Lean hashes anything: it is a label: what it is worth is what the hold of that sum in a sandbox is worth. -/
noncomputable def Ybgu.pinned : Pinned := { name := "ybonekvyyfmt", sum := "922fc77973463d4dcad209d87a84957f758c2711b5d4ec3681b60fc2a2009c79", checked := Ybgu.checked }
namespace Rows
def none {H : Type} : Left H := { results := [], args := [] }

/-- 'windowpane.LawS5222BExact': WHATEVER THE INPUT: true; the input reads as it did. -/
def lawS5222BExactSpec : ChangeSpec := { name := "lawS5222BExact", fn := fun _ => fun
  | [d] => { results := [.lit (.bool true)], args := [d] }
  | _ => none }
def lawS5222BExactRow : OpenClaim := { program := "ybonekvyyfmt", sum := "922fc77973463d4dcad209d87a84957f758c2711b5d4ec3681b60fc2a2009c79", func := "example.com/windowpane/windowpane.LawS5222BExact", spec := "lawS5222BExact", stops := ["fmt.errorf"], inPlace := ["fmt.errorf"], apart := false }
/-- NO THEOREM (fmt's text is open here; it may be false): for the released tool's asking of the row's closed facts alone. THE STATEMENT IS 'LawS5222BExactToldSaid' (YbonekvyyFmtCards.lean). -/
def LawS5222BExactFormAsk : Prop := lawS5222BExactRow.holds Ybgu.pinned (OpenSpec.ofChange lawS5222BExactSpec)

/-- ITS FALSE NEIGHBOUR: 'it returns false'. Refute it at one input. -/
def lawS5222BExactWrong : ChangeSpec := { name := "lawS5222BExact", fn := fun _ => fun
  | [d] => { results := [.lit (.bool false)], args := [d] }
  | _ => none }
def LawS5222BExactWrongFormAsk : Prop := lawS5222BExactRow.holds Ybgu.pinned (OpenSpec.ofChange lawS5222BExactWrong)

end Rows
end Go.Proofs.YbonekvyyFmt
