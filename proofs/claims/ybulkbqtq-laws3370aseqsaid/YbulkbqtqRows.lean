/-
  No cell of these rows narrows 'for every input' (looked for: loops, veiled, ifaces, maps, wideKeys, modest, calm, conditions, laid).
  DERIVED. THE GIVEN ROWS OF THIS SEAT. 2 by the template 'for every input the law returns true; each argument reads behind the call as it read before'; 0 by the template 'total and deterministic' (their statements: YbulkbqtqTotals.lean).
  GIVEN WITH THE SEED: the statements are not yours to turn. If you find one false, say at which input.
  Laid BY PROGRAM, IN A SANDBOX (cutbox-rows.mjs): the forced cells as the released guide's own fill.sh prints them over the translation 5fe023fc864c8ad8… (all of the seat's roots in one cut). By AI agents, Wed Nov 11 2026. No macro, syntax, notation, axiom, sorry.
-/
import Derived.Test.YbulkbqtqChecked
import GoSem.Claim
import GoSem.ClaimJoined
import GoSem.ClaimMapViews
import Derived.JoinedTies
import Derived.KernelRfl
namespace Go.Proofs.Ybulkbqtq
/- THE CELL 'sum', in the pinned program and in every row, IS THE sha256 OF THE DUMP (.gsa) THAT YbulkbqtqProg.lean LOADS. Nothing in Lean hashes anything: it is a label: what it is worth is what the hold of that sum in a sandbox is worth. -/
noncomputable def Yba.pinned : Pinned := { name := "ybulkbqtq", sum := "5fe023fc864c8ad83fc3cb1f84671e4e1b3406521415e9f5924dad417e33dfea", checked := Yba.checked }
namespace Rows
def none {H : Type} : Left H := { results := [], args := [] }

/-- 'chained.LawS3370AStep': WHATEVER THE INPUT: true; the input reads as it did. -/
def lawS3370AStepSpec : ChangeSpec := { name := "lawS3370AStep", fn := fun _ => fun
  | [d1, d2, d3, d4, d5] => { results := [.lit (.bool true)], args := [d1, d2, d3, d4, d5] }
  | _ => none }
def lawS3370AStepRow : OpenClaim := { program := "ybulkbqtq", sum := "5fe023fc864c8ad83fc3cb1f84671e4e1b3406521415e9f5924dad417e33dfea", func := "example.com/inquest/inquest/chained.LawS3370AStep", spec := "lawS3370AStep", unfollowed := true, recurses := true, plainKeys := false, apart := false }
def LawS3370AStepSaid : Prop := lawS3370AStepRow.holds Yba.pinned (OpenSpec.ofChange lawS3370AStepSpec)

/-- ITS FALSE NEIGHBOUR: 'it returns false'. Refute it at one input. -/
def lawS3370AStepWrong : ChangeSpec := { name := "lawS3370AStep", fn := fun _ => fun
  | [d1, d2, d3, d4, d5] => { results := [.lit (.bool false)], args := [d1, d2, d3, d4, d5] }
  | _ => none }
def LawS3370AStepWrongFalsely : Prop := lawS3370AStepRow.holds Yba.pinned (OpenSpec.ofChange lawS3370AStepWrong)

/-- 'chained.LawS3370ASeq': WHATEVER THE INPUT: true; the input reads as it did. -/
def lawS3370ASeqSpec : ChangeSpec := { name := "lawS3370ASeq", fn := fun _ => fun
  | [d1, d2] => { results := [.lit (.bool true)], args := [d1, d2] }
  | _ => none }
def lawS3370ASeqRow : OpenClaim := { program := "ybulkbqtq", sum := "5fe023fc864c8ad83fc3cb1f84671e4e1b3406521415e9f5924dad417e33dfea", func := "example.com/inquest/inquest/chained.LawS3370ASeq", spec := "lawS3370ASeq", unfollowed := true, recurses := true, plainKeys := false, apart := false }
def LawS3370ASeqSaid : Prop := lawS3370ASeqRow.holds Yba.pinned (OpenSpec.ofChange lawS3370ASeqSpec)

/-- ITS FALSE NEIGHBOUR: 'it returns false'. Refute it at one input. -/
def lawS3370ASeqWrong : ChangeSpec := { name := "lawS3370ASeq", fn := fun _ => fun
  | [d1, d2] => { results := [.lit (.bool false)], args := [d1, d2] }
  | _ => none }
def LawS3370ASeqWrongFalsely : Prop := lawS3370ASeqRow.holds Yba.pinned (OpenSpec.ofChange lawS3370ASeqWrong)

end Rows
end Go.Proofs.Ybulkbqtq
