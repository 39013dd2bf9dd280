/-
  No cell of these rows narrows 'for every input' (looked for: loops, veiled, ifaces, maps, wideKeys, modest, calm, conditions, laid).
  DERIVED. THE GIVEN ROWS OF THIS SEAT. 2 by the template 'for every input the law returns true; each argument reads behind the call as it read before'; 0 by the template 'total and deterministic' (their statements: YbulkbwtuTotals.lean).
  GIVEN WITH THE SEED: the statements are not yours to turn. If you find one false, say at which input.
  Laid BY PROGRAM, IN A SANDBOX (cutbox-rows.mjs): the forced cells as the released guide's own fill.sh prints them over the translation 6c4f47d631e45c05… (all of the seat's roots in one cut). By AI agents, Wed Nov 11 2026. No macro, syntax, notation, axiom, sorry.
-/
import Derived.Test.YbulkbwtuChecked
import GoSem.Claim
import GoSem.ClaimJoined
import GoSem.ClaimMapViews
import Derived.JoinedTies
import Derived.KernelRfl
namespace Go.Proofs.Ybulkbwtu
/- THE CELL 'sum', in the pinned program and in every row, IS THE sha256 OF THE DUMP (.gsa) THAT YbulkbwtuProg.lean LOADS. Nothing in Lean hashes anything: it is a label: what it is worth is what the hold of that sum in a sandbox is worth. -/
noncomputable def Yba.pinned : Pinned := { name := "ybulkbwtu", sum := "6c4f47d631e45c05056e07a17601a4687745cdd0248fbb7f2b82c02bea590cfd", checked := Yba.checked }
namespace Rows
def none {H : Type} : Left H := { results := [], args := [] }

/-- 'serialis.LawS3660BFindExact': WHATEVER THE INPUT: true; the input reads as it did. -/
def lawS3660BFindExactSpec : ChangeSpec := { name := "lawS3660BFindExact", fn := fun _ => fun
  | [d1, d2] => { results := [.lit (.bool true)], args := [d1, d2] }
  | _ => none }
def lawS3660BFindExactRow : OpenClaim := { program := "ybulkbwtu", sum := "6c4f47d631e45c05056e07a17601a4687745cdd0248fbb7f2b82c02bea590cfd", func := "example.com/serialis/serialis.LawS3660BFindExact", spec := "lawS3660BFindExact", apart := false }
def LawS3660BFindExactSaid : Prop := lawS3660BFindExactRow.holds Yba.pinned (OpenSpec.ofChange lawS3660BFindExactSpec)

/-- ITS FALSE NEIGHBOUR: 'it returns false'. Refute it at one input. -/
def lawS3660BFindExactWrong : ChangeSpec := { name := "lawS3660BFindExact", fn := fun _ => fun
  | [d1, d2] => { results := [.lit (.bool false)], args := [d1, d2] }
  | _ => none }
def LawS3660BFindExactWrongFalsely : Prop := lawS3660BFindExactRow.holds Yba.pinned (OpenSpec.ofChange lawS3660BFindExactWrong)

/-- 'serialis.LawS3660BJoinGroups': WHATEVER THE INPUT: true; the input reads as it did. -/
def lawS3660BJoinGroupsSpec : ChangeSpec := { name := "lawS3660BJoinGroups", fn := fun _ => fun
  | [d1, d2, d3] => { results := [.lit (.bool true)], args := [d1, d2, d3] }
  | _ => none }
def lawS3660BJoinGroupsRow : OpenClaim := { program := "ybulkbwtu", sum := "6c4f47d631e45c05056e07a17601a4687745cdd0248fbb7f2b82c02bea590cfd", func := "example.com/serialis/serialis.LawS3660BJoinGroups", spec := "lawS3660BJoinGroups", apart := false }
def LawS3660BJoinGroupsSaid : Prop := lawS3660BJoinGroupsRow.holds Yba.pinned (OpenSpec.ofChange lawS3660BJoinGroupsSpec)

/-- ITS FALSE NEIGHBOUR: 'it returns false'. Refute it at one input. -/
def lawS3660BJoinGroupsWrong : ChangeSpec := { name := "lawS3660BJoinGroups", fn := fun _ => fun
  | [d1, d2, d3] => { results := [.lit (.bool false)], args := [d1, d2, d3] }
  | _ => none }
def LawS3660BJoinGroupsWrongFalsely : Prop := lawS3660BJoinGroupsRow.holds Yba.pinned (OpenSpec.ofChange lawS3660BJoinGroupsWrong)

end Rows
end Go.Proofs.Ybulkbwtu
