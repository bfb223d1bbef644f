/-
  No cell of these rows narrows 'for every input' (looked for: loops, veiled, ifaces, maps, wideKeys, modest, calm, conditions, laid).
  DERIVED. THE GIVEN ROWS OF THIS SEAT. 2 by the template 'for every input the law returns true; each argument reads behind the call as it read before'; 0 by the template 'total and deterministic' (their statements: YbulkbqvuTotals.lean).
  GIVEN WITH THE SEED: the statements are not yours to turn. If you find one false, say at which input.
  Laid BY PROGRAM, IN A SANDBOX (cutbox-rows.mjs): the forced cells as the released guide's own fill.sh prints them over the translation 6b497d3290d82fab… (all of the seat's roots in one cut). By AI agents, Wed Nov 11 2026. No macro, syntax, notation, axiom, sorry.
-/
import Derived.Test.YbulkbqvuChecked
import GoSem.Claim
import GoSem.ClaimJoined
import GoSem.ClaimMapViews
import Derived.JoinedTies
import Derived.KernelRfl
namespace Go.Proofs.Ybulkbqvu
/- THE CELL 'sum', in the pinned program and in every row, IS THE sha256 OF THE DUMP (.gsa) THAT YbulkbqvuProg.lean LOADS. Nothing in Lean hashes anything: it is a label: what it is worth is what the hold of that sum in a sandbox is worth. -/
noncomputable def Yba.pinned : Pinned := { name := "ybulkbqvu", sum := "6b497d3290d82fab831a56c6fe6bda9775c9ee0509f63358406dccdab5b841e2", checked := Yba.checked }
namespace Rows
def none {H : Type} : Left H := { results := [], args := [] }

/-- 'vuxml.LawS3374BMember': WHATEVER THE INPUT: true; the input reads as it did. -/
def lawS3374BMemberSpec : ChangeSpec := { name := "lawS3374BMember", fn := fun _ => fun
  | [d1, d2] => { results := [.lit (.bool true)], args := [d1, d2] }
  | _ => none }
def lawS3374BMemberRow : OpenClaim := { program := "ybulkbqvu", sum := "6b497d3290d82fab831a56c6fe6bda9775c9ee0509f63358406dccdab5b841e2", func := "example.com/vulledger/vulledger/internal/vuxml.LawS3374BMember", spec := "lawS3374BMember", apart := false }
def LawS3374BMemberSaid : Prop := lawS3374BMemberRow.holds Yba.pinned (OpenSpec.ofChange lawS3374BMemberSpec)

/-- ITS FALSE NEIGHBOUR: 'it returns false'. Refute it at one input. -/
def lawS3374BMemberWrong : ChangeSpec := { name := "lawS3374BMember", fn := fun _ => fun
  | [d1, d2] => { results := [.lit (.bool false)], args := [d1, d2] }
  | _ => none }
def LawS3374BMemberWrongFalsely : Prop := lawS3374BMemberRow.holds Yba.pinned (OpenSpec.ofChange lawS3374BMemberWrong)

/-- 'vuxml.LawS3374BPicked': WHATEVER THE INPUT: true; the input reads as it did. -/
def lawS3374BPickedSpec : ChangeSpec := { name := "lawS3374BPicked", fn := fun _ => fun
  | [d1, d2] => { results := [.lit (.bool true)], args := [d1, d2] }
  | _ => none }
def lawS3374BPickedRow : OpenClaim := { program := "ybulkbqvu", sum := "6b497d3290d82fab831a56c6fe6bda9775c9ee0509f63358406dccdab5b841e2", func := "example.com/vulledger/vulledger/internal/vuxml.LawS3374BPicked", spec := "lawS3374BPicked", apart := false }
def LawS3374BPickedSaid : Prop := lawS3374BPickedRow.holds Yba.pinned (OpenSpec.ofChange lawS3374BPickedSpec)

/-- ITS FALSE NEIGHBOUR: 'it returns false'. Refute it at one input. -/
def lawS3374BPickedWrong : ChangeSpec := { name := "lawS3374BPicked", fn := fun _ => fun
  | [d1, d2] => { results := [.lit (.bool false)], args := [d1, d2] }
  | _ => none }
def LawS3374BPickedWrongFalsely : Prop := lawS3374BPickedRow.holds Yba.pinned (OpenSpec.ofChange lawS3374BPickedWrong)

end Rows
end Go.Proofs.Ybulkbqvu
