/-
  No cell of these rows narrows 'for every input' (looked for: loops, veiled, ifaces, maps, wideKeys, modest, calm, conditions, laid).
  DERIVED. THE GIVEN ROWS OF THIS SEAT. 2 by the template 'for every input the law returns true; each argument reads behind the call as it read before'; 0 by the template 'total and deterministic' (their statements: YbulkbwvyTotals.lean).
  GIVEN WITH THE SEED: the statements are not yours to turn. If you find one false, say at which input.
  Laid BY PROGRAM, IN A SANDBOX (cutbox-rows.mjs): the forced cells as the released guide's own fill.sh prints them over the translation 6a51e232340d91b5… (all of the seat's roots in one cut). By AI agents, Wed Nov 11 2026. No macro, syntax, notation, axiom, sorry.
-/
import Derived.Test.YbulkbwvyChecked
import GoSem.Claim
import GoSem.ClaimJoined
import GoSem.ClaimMapViews
import Derived.JoinedTies
import Derived.KernelRfl
namespace Go.Proofs.Ybulkbwvy
/- THE CELL 'sum', in the pinned program and in every row, IS THE sha256 OF THE DUMP (.gsa) THAT YbulkbwvyProg.lean LOADS. Nothing in Lean hashes anything: it is a label: what it is worth is what the hold of that sum in a sandbox is worth. -/
noncomputable def Yba.pinned : Pinned := { name := "ybulkbwvy", sum := "6a51e232340d91b5a72b05d2bbdb86b15788b4037984ba5f8ce6f67649de17f0", checked := Yba.checked }
namespace Rows
def none {H : Type} : Left H := { results := [], args := [] }

/-- 'versionstamp.LawS3664COneStep': WHATEVER THE INPUT: true; the input reads as it did. -/
def lawS3664COneStepSpec : ChangeSpec := { name := "lawS3664COneStep", fn := fun _ => fun
  | [d1, d2, d3, d4, d5, d6, d7] => { results := [.lit (.bool true)], args := [d1, d2, d3, d4, d5, d6, d7] }
  | _ => none }
def lawS3664COneStepRow : OpenClaim := { program := "ybulkbwvy", sum := "6a51e232340d91b5a72b05d2bbdb86b15788b4037984ba5f8ce6f67649de17f0", func := "example.com/stampwise/stampwise/versionstamp.LawS3664COneStep", spec := "lawS3664COneStep", apart := false }
def LawS3664COneStepSaid : Prop := lawS3664COneStepRow.holds Yba.pinned (OpenSpec.ofChange lawS3664COneStepSpec)

/-- ITS FALSE NEIGHBOUR: 'it returns false'. Refute it at one input. -/
def lawS3664COneStepWrong : ChangeSpec := { name := "lawS3664COneStep", fn := fun _ => fun
  | [d1, d2, d3, d4, d5, d6, d7] => { results := [.lit (.bool false)], args := [d1, d2, d3, d4, d5, d6, d7] }
  | _ => none }
def LawS3664COneStepWrongFalsely : Prop := lawS3664COneStepRow.holds Yba.pinned (OpenSpec.ofChange lawS3664COneStepWrong)

/-- 'versionstamp.LawS3664CDrain': WHATEVER THE INPUT: true; the input reads as it did. -/
def lawS3664CDrainSpec : ChangeSpec := { name := "lawS3664CDrain", fn := fun _ => fun
  | [d1, d2, d3] => { results := [.lit (.bool true)], args := [d1, d2, d3] }
  | _ => none }
def lawS3664CDrainRow : OpenClaim := { program := "ybulkbwvy", sum := "6a51e232340d91b5a72b05d2bbdb86b15788b4037984ba5f8ce6f67649de17f0", func := "example.com/stampwise/stampwise/versionstamp.LawS3664CDrain", spec := "lawS3664CDrain", apart := false }
def LawS3664CDrainSaid : Prop := lawS3664CDrainRow.holds Yba.pinned (OpenSpec.ofChange lawS3664CDrainSpec)

/-- ITS FALSE NEIGHBOUR: 'it returns false'. Refute it at one input. -/
def lawS3664CDrainWrong : ChangeSpec := { name := "lawS3664CDrain", fn := fun _ => fun
  | [d1, d2, d3] => { results := [.lit (.bool false)], args := [d1, d2, d3] }
  | _ => none }
def LawS3664CDrainWrongFalsely : Prop := lawS3664CDrainRow.holds Yba.pinned (OpenSpec.ofChange lawS3664CDrainWrong)

end Rows
end Go.Proofs.Ybulkbwvy
