/-
  No cell of these rows narrows 'for every input' (looked for: loops, veiled, ifaces, maps, wideKeys, modest, calm, conditions, laid).
  DERIVED. THE GIVEN ROWS OF THIS SEAT. 2 by the template 'for every input the law returns true; each argument reads behind the call as it read before'; 0 by the template 'total and deterministic' (their statements: YbulkbwuiTotals.lean).
  GIVEN WITH THE SEED: the statements are not yours to turn. If you find one false, say at which input.
  Laid BY PROGRAM, IN A SANDBOX (cutbox-rows.mjs): the forced cells as the released guide's own fill.sh prints them over the translation 653f245d146cae37… (all of the seat's roots in one cut). By AI agents, Wed Nov 11 2026. No macro, syntax, notation, axiom, sorry.
-/
import Derived.Test.YbulkbwuiChecked
import GoSem.Claim
import GoSem.ClaimJoined
import GoSem.ClaimMapViews
import Derived.JoinedTies
import Derived.KernelRfl
namespace Go.Proofs.Ybulkbwui
/- THE CELL 'sum', in the pinned program and in every row, IS THE sha256 OF THE DUMP (.gsa) THAT YbulkbwuiProg.lean LOADS. Nothing in Lean hashes anything: it is a label: what it is worth is what the hold of that sum in a sandbox is worth. -/
noncomputable def Yba.pinned : Pinned := { name := "ybulkbwui", sum := "653f245d146cae37f732e4ec1844d6cd7b358164c8bfe697c3bfa8f339dbc99f", checked := Yba.checked }
namespace Rows
def none {H : Type} : Left H := { results := [], args := [] }

/-- 'jose.LawS3661CPushOne': WHATEVER THE INPUT: true; the input reads as it did. -/
def lawS3661CPushOneSpec : ChangeSpec := { name := "lawS3661CPushOne", fn := fun _ => fun
  | [d1, d2, d3] => { results := [.lit (.bool true)], args := [d1, d2, d3] }
  | _ => none }
def lawS3661CPushOneRow : OpenClaim := { program := "ybulkbwui", sum := "653f245d146cae37f732e4ec1844d6cd7b358164c8bfe697c3bfa8f339dbc99f", func := "example.com/wary-jwt/wary-jwt/internal/jose.LawS3661CPushOne", spec := "lawS3661CPushOne", apart := false }
def LawS3661CPushOneSaid : Prop := lawS3661CPushOneRow.holds Yba.pinned (OpenSpec.ofChange lawS3661CPushOneSpec)

/-- ITS FALSE NEIGHBOUR: 'it returns false'. Refute it at one input. -/
def lawS3661CPushOneWrong : ChangeSpec := { name := "lawS3661CPushOne", fn := fun _ => fun
  | [d1, d2, d3] => { results := [.lit (.bool false)], args := [d1, d2, d3] }
  | _ => none }
def LawS3661CPushOneWrongFalsely : Prop := lawS3661CPushOneRow.holds Yba.pinned (OpenSpec.ofChange lawS3661CPushOneWrong)

/-- 'jose.LawS3661CPushAll': WHATEVER THE INPUT: true; the input reads as it did. -/
def lawS3661CPushAllSpec : ChangeSpec := { name := "lawS3661CPushAll", fn := fun _ => fun
  | [d] => { results := [.lit (.bool true)], args := [d] }
  | _ => none }
def lawS3661CPushAllRow : OpenClaim := { program := "ybulkbwui", sum := "653f245d146cae37f732e4ec1844d6cd7b358164c8bfe697c3bfa8f339dbc99f", func := "example.com/wary-jwt/wary-jwt/internal/jose.LawS3661CPushAll", spec := "lawS3661CPushAll", apart := false }
def LawS3661CPushAllSaid : Prop := lawS3661CPushAllRow.holds Yba.pinned (OpenSpec.ofChange lawS3661CPushAllSpec)

/-- ITS FALSE NEIGHBOUR: 'it returns false'. Refute it at one input. -/
def lawS3661CPushAllWrong : ChangeSpec := { name := "lawS3661CPushAll", fn := fun _ => fun
  | [d] => { results := [.lit (.bool false)], args := [d] }
  | _ => none }
def LawS3661CPushAllWrongFalsely : Prop := lawS3661CPushAllRow.holds Yba.pinned (OpenSpec.ofChange lawS3661CPushAllWrong)

end Rows
end Go.Proofs.Ybulkbwui
