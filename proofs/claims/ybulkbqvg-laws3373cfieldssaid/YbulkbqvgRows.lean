/-
  No cell of these rows narrows 'for every input' (looked for: loops, veiled, ifaces, maps, wideKeys, modest, calm, conditions, laid).
  DERIVED. THE GIVEN ROWS OF THIS SEAT. 2 by the template 'for every input the law returns true; each argument reads behind the call as it read before'; 0 by the template 'total and deterministic' (their statements: YbulkbqvgTotals.lean).
  GIVEN WITH THE SEED: the statements are not yours to turn. If you find one false, say at which input.
  Laid BY PROGRAM, IN A SANDBOX (cutbox-rows.mjs): the forced cells as the released guide's own fill.sh prints them over the translation 30d444e571096e2b… (all of the seat's roots in one cut). By AI agents, Wed Nov 11 2026. No macro, syntax, notation, axiom, sorry.
-/
import Derived.Test.YbulkbqvgChecked
import GoSem.Claim
import GoSem.ClaimJoined
import GoSem.ClaimMapViews
import Derived.JoinedTies
import Derived.KernelRfl
namespace Go.Proofs.Ybulkbqvg
/- THE CELL 'sum', in the pinned program and in every row, IS THE sha256 OF THE DUMP (.gsa) THAT YbulkbqvgProg.lean LOADS. Nothing in Lean hashes anything: it is a label: what it is worth is what the hold of that sum in a sandbox is worth. -/
noncomputable def Yba.pinned : Pinned := { name := "ybulkbqvg", sum := "30d444e571096e2bd5a729b5d91a093aa2f98f1a49233349b0f843422c6d596b", checked := Yba.checked }
namespace Rows
def none {H : Type} : Left H := { results := [], args := [] }

/-- 'syntax.LawS3373CFields': WHATEVER THE INPUT: true; the input reads as it did. -/
def lawS3373CFieldsSpec : ChangeSpec := { name := "lawS3373CFields", fn := fun _ => fun
  | [d1, d2] => { results := [.lit (.bool true)], args := [d1, d2] }
  | _ => none }
def lawS3373CFieldsRow : OpenClaim := { program := "ybulkbqvg", sum := "30d444e571096e2bd5a729b5d91a093aa2f98f1a49233349b0f843422c6d596b", func := "example.com/skywright/skywright/pkg/syntax.LawS3373CFields", spec := "lawS3373CFields", apart := false }
def LawS3373CFieldsSaid : Prop := lawS3373CFieldsRow.holds Yba.pinned (OpenSpec.ofChange lawS3373CFieldsSpec)

/-- ITS FALSE NEIGHBOUR: 'it returns false'. Refute it at one input. -/
def lawS3373CFieldsWrong : ChangeSpec := { name := "lawS3373CFields", fn := fun _ => fun
  | [d1, d2] => { results := [.lit (.bool false)], args := [d1, d2] }
  | _ => none }
def LawS3373CFieldsWrongFalsely : Prop := lawS3373CFieldsRow.holds Yba.pinned (OpenSpec.ofChange lawS3373CFieldsWrong)

/-- 'syntax.LawS3373CFresh': WHATEVER THE INPUT: true; the input reads as it did. -/
def lawS3373CFreshSpec : ChangeSpec := { name := "lawS3373CFresh", fn := fun _ => fun
  | [d1, d2] => { results := [.lit (.bool true)], args := [d1, d2] }
  | _ => none }
def lawS3373CFreshRow : OpenClaim := { program := "ybulkbqvg", sum := "30d444e571096e2bd5a729b5d91a093aa2f98f1a49233349b0f843422c6d596b", func := "example.com/skywright/skywright/pkg/syntax.LawS3373CFresh", spec := "lawS3373CFresh", apart := false }
def LawS3373CFreshSaid : Prop := lawS3373CFreshRow.holds Yba.pinned (OpenSpec.ofChange lawS3373CFreshSpec)

/-- ITS FALSE NEIGHBOUR: 'it returns false'. Refute it at one input. -/
def lawS3373CFreshWrong : ChangeSpec := { name := "lawS3373CFresh", fn := fun _ => fun
  | [d1, d2] => { results := [.lit (.bool false)], args := [d1, d2] }
  | _ => none }
def LawS3373CFreshWrongFalsely : Prop := lawS3373CFreshRow.holds Yba.pinned (OpenSpec.ofChange lawS3373CFreshWrong)

end Rows
end Go.Proofs.Ybulkbqvg
