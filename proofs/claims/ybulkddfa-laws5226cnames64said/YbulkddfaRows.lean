/-
  No cell of these rows narrows 'for every input' (looked for: loops, veiled, ifaces, maps, wideKeys, modest, calm, conditions, laid).
  DERIVED. THE GIVEN ROWS OF THIS SEAT. 2 by the template 'for every input the law returns true; each argument reads behind the call as it read before'; 0 by the template 'total and deterministic' (their statements: YbulkddfaTotals.lean).
  GIVEN WITH THE SEED: the statements are not yours to turn. If you find one false, say at which input.
  Laid BY PROGRAM, IN A SANDBOX (cutbox-rows.mjs): the forced cells as the released guide's own fill.sh prints them over the translation 1a49b4eeeb1fb851… (all of the seat's roots in one cut). By AI agents, Wed Nov 11 2026. No macro, syntax, notation, axiom, sorry.
-/
import Derived.Test.YbulkddfaChecked
import GoSem.Claim
import GoSem.ClaimJoined
import GoSem.ClaimMapViews
import Derived.JoinedTies
import Derived.KernelRfl
namespace Go.Proofs.Ybulkddfa
/- THE CELL 'sum', in the pinned program and in every row, IS THE sha256 OF THE DUMP (.gsa) THAT YbulkddfaProg.lean LOADS. Nothing in Lean hashes anything: it is a label: what it is worth is what the hold of that sum in a sandbox is worth. -/
noncomputable def Yba.pinned : Pinned := { name := "ybulkddfa", sum := "1a49b4eeeb1fb851b43a075913db27d7cff3ad9f001a75b72de1fb70df731c85", checked := Yba.checked }
namespace Rows
def none {H : Type} : Left H := { results := [], args := [] }

/-- 'latchkey.LawS5226CNames32': WHATEVER THE INPUT: true; the input reads as it did. -/
def lawS5226CNames32Spec : ChangeSpec := { name := "lawS5226CNames32", fn := fun _ => fun
  | [d1, d2] => { results := [.lit (.bool true)], args := [d1, d2] }
  | _ => none }
def lawS5226CNames32Row : OpenClaim := { program := "ybulkddfa", sum := "1a49b4eeeb1fb851b43a075913db27d7cff3ad9f001a75b72de1fb70df731c85", func := "example.com/latchkey/latchkey.LawS5226CNames32", spec := "lawS5226CNames32", apart := false }
def LawS5226CNames32Said : Prop := lawS5226CNames32Row.holds Yba.pinned (OpenSpec.ofChange lawS5226CNames32Spec)

/-- ITS FALSE NEIGHBOUR: 'it returns false'. Refute it at one input. -/
def lawS5226CNames32Wrong : ChangeSpec := { name := "lawS5226CNames32", fn := fun _ => fun
  | [d1, d2] => { results := [.lit (.bool false)], args := [d1, d2] }
  | _ => none }
def LawS5226CNames32WrongFalsely : Prop := lawS5226CNames32Row.holds Yba.pinned (OpenSpec.ofChange lawS5226CNames32Wrong)

/-- 'latchkey.LawS5226CNames64': WHATEVER THE INPUT: true; the input reads as it did. -/
def lawS5226CNames64Spec : ChangeSpec := { name := "lawS5226CNames64", fn := fun _ => fun
  | [d1, d2] => { results := [.lit (.bool true)], args := [d1, d2] }
  | _ => none }
def lawS5226CNames64Row : OpenClaim := { program := "ybulkddfa", sum := "1a49b4eeeb1fb851b43a075913db27d7cff3ad9f001a75b72de1fb70df731c85", func := "example.com/latchkey/latchkey.LawS5226CNames64", spec := "lawS5226CNames64", apart := false }
def LawS5226CNames64Said : Prop := lawS5226CNames64Row.holds Yba.pinned (OpenSpec.ofChange lawS5226CNames64Spec)

/-- ITS FALSE NEIGHBOUR: 'it returns false'. Refute it at one input. -/
def lawS5226CNames64Wrong : ChangeSpec := { name := "lawS5226CNames64", fn := fun _ => fun
  | [d1, d2] => { results := [.lit (.bool false)], args := [d1, d2] }
  | _ => none }
def LawS5226CNames64WrongFalsely : Prop := lawS5226CNames64Row.holds Yba.pinned (OpenSpec.ofChange lawS5226CNames64Wrong)

end Rows
end Go.Proofs.Ybulkddfa
