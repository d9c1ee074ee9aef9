/-
  No cell of these rows narrows 'for every input' (looked for: loops, veiled, ifaces, maps, wideKeys, modest, calm, conditions, laid).
  DERIVED. THE GIVEN ROWS OF THIS SEAT. 1 by the template 'for every input the law returns true; each argument reads behind the call as it read before'; 0 by the template 'total and deterministic' (their statements: YbulkddemTotals.lean).
  GIVEN WITH THE SEED: the statements are not yours to turn. If you find one false, say at which input.
  Laid BY PROGRAM, IN A SANDBOX (cutbox-rows.mjs): the forced cells as the released guide's own fill.sh prints them over the translation 16332af187b170c4… (all of the seat's roots in one cut). By AI agents, Wed Nov 11 2026. No macro, syntax, notation, axiom, sorry.
-/
import Derived.Test.YbulkddemChecked
import GoSem.Claim
import GoSem.ClaimJoined
import GoSem.ClaimMapViews
import Derived.JoinedTies
import Derived.KernelRfl
namespace Go.Proofs.Ybulkddem
/- THE CELL 'sum', in the pinned program and in every row, IS THE sha256 OF THE DUMP (.gsa) THAT YbulkddemProg.lean LOADS. Nothing in Lean hashes anything: it is a label: what it is worth is what the hold of that sum in a sandbox is worth. -/
noncomputable def Yba.pinned : Pinned := { name := "ybulkddem", sum := "16332af187b170c4b07d2f9bc432ac32a9e1989436251af623fc163106af6a8f", checked := Yba.checked }
namespace Rows
def none {H : Type} : Left H := { results := [], args := [] }

/-- 'peer.LawS5225CExact': WHATEVER THE INPUT: true; the input reads as it did. -/
def lawS5225CExactSpec : ChangeSpec := { name := "lawS5225CExact", fn := fun _ => fun
  | [d1, d2, d3, d4] => { results := [.lit (.bool true)], args := [d1, d2, d3, d4] }
  | _ => none }
def lawS5225CExactRow : OpenClaim := { program := "ybulkddem", sum := "16332af187b170c4b07d2f9bc432ac32a9e1989436251af623fc163106af6a8f", func := "example.com/rookery/rookery/internal/peer.LawS5225CExact", spec := "lawS5225CExact", named := ["encoding/binary.BigEndian"], apart := false }
def LawS5225CExactSaid : Prop := lawS5225CExactRow.holds Yba.pinned (OpenSpec.ofChange lawS5225CExactSpec)

/-- ITS FALSE NEIGHBOUR: 'it returns false'. Refute it at one input. -/
def lawS5225CExactWrong : ChangeSpec := { name := "lawS5225CExact", fn := fun _ => fun
  | [d1, d2, d3, d4] => { results := [.lit (.bool false)], args := [d1, d2, d3, d4] }
  | _ => none }
def LawS5225CExactWrongFalsely : Prop := lawS5225CExactRow.holds Yba.pinned (OpenSpec.ofChange lawS5225CExactWrong)

end Rows
end Go.Proofs.Ybulkddem
