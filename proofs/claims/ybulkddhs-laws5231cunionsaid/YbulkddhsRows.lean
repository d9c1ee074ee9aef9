/-
  No cell of these rows narrows 'for every input' (looked for: loops, veiled, ifaces, maps, wideKeys, modest, calm, conditions, laid).
  DERIVED. THE GIVEN ROWS OF THIS SEAT. 1 by the template 'for every input the law returns true; each argument reads behind the call as it read before'; 0 by the template 'total and deterministic' (their statements: YbulkddhsTotals.lean).
  GIVEN WITH THE SEED: the statements are not yours to turn. If you find one false, say at which input.
  Laid BY PROGRAM, IN A SANDBOX (cutbox-rows.mjs): the forced cells as the released guide's own fill.sh prints them over the translation cce10ed114746389… (all of the seat's roots in one cut). By AI agents, Wed Nov 11 2026. No macro, syntax, notation, axiom, sorry.
-/
import Derived.Test.YbulkddhsChecked
import GoSem.Claim
import GoSem.ClaimJoined
import GoSem.ClaimMapViews
import Derived.JoinedTies
import Derived.KernelRfl
namespace Go.Proofs.Ybulkddhs
/- THE CELL 'sum', in the pinned program and in every row, IS THE sha256 OF THE DUMP (.gsa) THAT YbulkddhsProg.lean LOADS. Nothing in Lean hashes anything: it is a label: what it is worth is what the hold of that sum in a sandbox is worth. -/
noncomputable def Yba.pinned : Pinned := { name := "ybulkddhs", sum := "cce10ed114746389550b1ad8e7251b88a2ca4691ac8a09b129329effd4578f04", checked := Yba.checked }
namespace Rows
def none {H : Type} : Left H := { results := [], args := [] }

/-- 'turtle-ant.LawS5231CUnion': WHATEVER THE INPUT: true; the input reads as it did. -/
def lawS5231CUnionSpec : ChangeSpec := { name := "lawS5231CUnion", fn := fun _ => fun
  | [d1, d2, d3, d4, d5, d6, d7, d8, d9, d10, d11] => { results := [.lit (.bool true)], args := [d1, d2, d3, d4, d5, d6, d7, d8, d9, d10, d11] }
  | _ => none }
def lawS5231CUnionRow : OpenClaim := { program := "ybulkddhs", sum := "cce10ed114746389550b1ad8e7251b88a2ca4691ac8a09b129329effd4578f04", func := "example.com/turtle-ant/turtle-ant.LawS5231CUnion", spec := "lawS5231CUnion", apart := false }
def LawS5231CUnionSaid : Prop := lawS5231CUnionRow.holds Yba.pinned (OpenSpec.ofChange lawS5231CUnionSpec)

/-- ITS FALSE NEIGHBOUR: 'it returns false'. Refute it at one input. -/
def lawS5231CUnionWrong : ChangeSpec := { name := "lawS5231CUnion", fn := fun _ => fun
  | [d1, d2, d3, d4, d5, d6, d7, d8, d9, d10, d11] => { results := [.lit (.bool false)], args := [d1, d2, d3, d4, d5, d6, d7, d8, d9, d10, d11] }
  | _ => none }
def LawS5231CUnionWrongFalsely : Prop := lawS5231CUnionRow.holds Yba.pinned (OpenSpec.ofChange lawS5231CUnionWrong)

end Rows
end Go.Proofs.Ybulkddhs
