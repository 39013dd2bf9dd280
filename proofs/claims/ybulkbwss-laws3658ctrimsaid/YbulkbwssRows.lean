/-
  No cell of these rows narrows 'for every input' (looked for: loops, veiled, ifaces, maps, wideKeys, modest, calm, conditions, laid).
  DERIVED. THE GIVEN ROWS OF THIS SEAT. 1 by the template 'for every input the law returns true; each argument reads behind the call as it read before'; 0 by the template 'total and deterministic' (their statements: YbulkbwssTotals.lean).
  GIVEN WITH THE SEED: the statements are not yours to turn. If you find one false, say at which input.
  Laid BY PROGRAM, IN A SANDBOX (cutbox-rows.mjs): the forced cells as the released guide's own fill.sh prints them over the translation e7d405213906e2b5… (all of the seat's roots in one cut). By AI agents, Wed Nov 11 2026. No macro, syntax, notation, axiom, sorry.
-/
import Derived.Test.YbulkbwssChecked
import GoSem.Claim
import GoSem.ClaimJoined
import GoSem.ClaimMapViews
import Derived.JoinedTies
import Derived.KernelRfl
namespace Go.Proofs.Ybulkbwss
/- THE CELL 'sum', in the pinned program and in every row, IS THE sha256 OF THE DUMP (.gsa) THAT YbulkbwssProg.lean LOADS. Nothing in Lean hashes anything: it is a label: what it is worth is what the hold of that sum in a sandbox is worth. -/
noncomputable def Yba.pinned : Pinned := { name := "ybulkbwss", sum := "e7d405213906e2b511f5e1cde4ea0926f4416468ca725b5f11fa2768b1e241a3", checked := Yba.checked }
namespace Rows
def none {H : Type} : Left H := { results := [], args := [] }

/-- 'synthfs.LawS3658CTrim': WHATEVER THE INPUT: true; the input reads as it did. -/
def lawS3658CTrimSpec : ChangeSpec := { name := "lawS3658CTrim", fn := fun _ => fun
  | [d1, d2, d3] => { results := [.lit (.bool true)], args := [d1, d2, d3] }
  | _ => none }
def lawS3658CTrimRow : OpenClaim := { program := "ybulkbwss", sum := "e7d405213906e2b511f5e1cde4ea0926f4416468ca725b5f11fa2768b1e241a3", func := "example.com/tagframe/tagframe/ninep/synthfs.LawS3658CTrim", spec := "lawS3658CTrim", apart := false }
def LawS3658CTrimSaid : Prop := lawS3658CTrimRow.holds Yba.pinned (OpenSpec.ofChange lawS3658CTrimSpec)

/-- ITS FALSE NEIGHBOUR: 'it returns false'. Refute it at one input. -/
def lawS3658CTrimWrong : ChangeSpec := { name := "lawS3658CTrim", fn := fun _ => fun
  | [d1, d2, d3] => { results := [.lit (.bool false)], args := [d1, d2, d3] }
  | _ => none }
def LawS3658CTrimWrongFalsely : Prop := lawS3658CTrimRow.holds Yba.pinned (OpenSpec.ofChange lawS3658CTrimWrong)

end Rows
end Go.Proofs.Ybulkbwss
