/-
  No cell of these rows narrows 'for every input' (looked for: loops, veiled, ifaces, maps, wideKeys, modest, calm, conditions, laid).
  DERIVED. THE GIVEN ROWS OF THIS SEAT. 3 by the template 'for every input the law returns true; each argument reads behind the call as it read before'; 0 by the template 'total and deterministic' (their statements: YbulkbqxkTotals.lean).
  GIVEN WITH THE SEED: the statements are not yours to turn. If you find one false, say at which input.
  Laid BY PROGRAM, IN A SANDBOX (cutbox-rows.mjs): the forced cells as the released guide's own fill.sh prints them over the translation cf151004baa23cb5… (all of the seat's roots in one cut). By AI agents, Wed Nov 11 2026. No macro, syntax, notation, axiom, sorry.
-/
import Derived.Test.YbulkbqxkChecked
import GoSem.Claim
import GoSem.ClaimJoined
import GoSem.ClaimMapViews
import Derived.JoinedTies
import Derived.KernelRfl
namespace Go.Proofs.Ybulkbqxk
/- THE CELL 'sum', in the pinned program and in every row, IS THE sha256 OF THE DUMP (.gsa) THAT YbulkbqxkProg.lean LOADS. Nothing in Lean hashes anything: it is a label: what it is worth is what the hold of that sum in a sandbox is worth. -/
noncomputable def Yba.pinned : Pinned := { name := "ybulkbqxk", sum := "cf151004baa23cb5d3ef9ef479d60baa7165df738149a5c2edc7efca584627a8", checked := Yba.checked }
namespace Rows
def none {H : Type} : Left H := { results := [], args := [] }

/-- 'btree.LawS3377BModel': WHATEVER THE INPUT: true; the input reads as it did. -/
def lawS3377BModelSpec : ChangeSpec := { name := "lawS3377BModel", fn := fun _ => fun
  | [d1, d2] => { results := [.lit (.bool true)], args := [d1, d2] }
  | _ => none }
def lawS3377BModelRow : OpenClaim := { program := "ybulkbqxk", sum := "cf151004baa23cb5d3ef9ef479d60baa7165df738149a5c2edc7efca584627a8", func := "example.com/keyfence/keyfence/internal/btree.LawS3377BModel", spec := "lawS3377BModel", recurses := true, apart := false }
def LawS3377BModelSaid : Prop := lawS3377BModelRow.holds Yba.pinned (OpenSpec.ofChange lawS3377BModelSpec)

/-- ITS FALSE NEIGHBOUR: 'it returns false'. Refute it at one input. -/
def lawS3377BModelWrong : ChangeSpec := { name := "lawS3377BModel", fn := fun _ => fun
  | [d1, d2] => { results := [.lit (.bool false)], args := [d1, d2] }
  | _ => none }
def LawS3377BModelWrongFalsely : Prop := lawS3377BModelRow.holds Yba.pinned (OpenSpec.ofChange lawS3377BModelWrong)

/-- 'btree.LawS3377BTied': WHATEVER THE INPUT: true; the input reads as it did. -/
def lawS3377BTiedSpec : ChangeSpec := { name := "lawS3377BTied", fn := fun _ => fun
  | [d1, d2, d3, d4] => { results := [.lit (.bool true)], args := [d1, d2, d3, d4] }
  | _ => none }
def lawS3377BTiedRow : OpenClaim := { program := "ybulkbqxk", sum := "cf151004baa23cb5d3ef9ef479d60baa7165df738149a5c2edc7efca584627a8", func := "example.com/keyfence/keyfence/internal/btree.LawS3377BTied", spec := "lawS3377BTied", recurses := true, apart := false }
def LawS3377BTiedSaid : Prop := lawS3377BTiedRow.holds Yba.pinned (OpenSpec.ofChange lawS3377BTiedSpec)

/-- ITS FALSE NEIGHBOUR: 'it returns false'. Refute it at one input. -/
def lawS3377BTiedWrong : ChangeSpec := { name := "lawS3377BTied", fn := fun _ => fun
  | [d1, d2, d3, d4] => { results := [.lit (.bool false)], args := [d1, d2, d3, d4] }
  | _ => none }
def LawS3377BTiedWrongFalsely : Prop := lawS3377BTiedRow.holds Yba.pinned (OpenSpec.ofChange lawS3377BTiedWrong)

/-- 'keyfence.LawS3377CEmpty': WHATEVER THE INPUT: true; the input reads as it did. -/
def lawS3377CEmptySpec : ChangeSpec := { name := "lawS3377CEmpty", fn := fun _ => fun
  | [d1, d2] => { results := [.lit (.bool true)], args := [d1, d2] }
  | _ => none }
def lawS3377CEmptyRow : OpenClaim := { program := "ybulkbqxk", sum := "cf151004baa23cb5d3ef9ef479d60baa7165df738149a5c2edc7efca584627a8", func := "example.com/keyfence/keyfence.LawS3377CEmpty", spec := "lawS3377CEmpty", apart := false }
def LawS3377CEmptySaid : Prop := lawS3377CEmptyRow.holds Yba.pinned (OpenSpec.ofChange lawS3377CEmptySpec)

/-- ITS FALSE NEIGHBOUR: 'it returns false'. Refute it at one input. -/
def lawS3377CEmptyWrong : ChangeSpec := { name := "lawS3377CEmpty", fn := fun _ => fun
  | [d1, d2] => { results := [.lit (.bool false)], args := [d1, d2] }
  | _ => none }
def LawS3377CEmptyWrongFalsely : Prop := lawS3377CEmptyRow.holds Yba.pinned (OpenSpec.ofChange lawS3377CEmptyWrong)

end Rows
end Go.Proofs.Ybulkbqxk
