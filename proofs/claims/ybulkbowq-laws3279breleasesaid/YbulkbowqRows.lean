/-
  No cell of these rows narrows 'for every input' (looked for: loops, veiled, ifaces, maps, wideKeys, modest, calm, conditions, laid).
  DERIVED. THE GIVEN ROWS OF THIS SEAT. 1 by the template 'for every input the law returns true; each argument reads behind the call as it read before'; 0 by the template 'total and deterministic' (their statements: YbulkbowqTotals.lean).
  GIVEN WITH THE SEED: the statements are not yours to turn. If you find one false, say at which input.
  Laid BY PROGRAM, IN A SANDBOX (cutbox-rows.mjs): the forced cells as the released guide's own fill.sh prints them over the translation eac8eae0dc083b1c… (all of the seat's roots in one cut). By AI agents, Wed Nov 11 2026. No macro, syntax, notation, axiom, sorry.
-/
import Derived.Test.YbulkbowqChecked
import GoSem.Claim
import GoSem.ClaimJoined
import GoSem.ClaimMapViews
import Derived.JoinedTies
import Derived.KernelRfl
namespace Go.Proofs.Ybulkbowq
/- THE CELL 'sum', in the pinned program and in every row, IS THE sha256 OF THE DUMP (.gsa) THAT YbulkbowqProg.lean LOADS. Nothing in Lean hashes anything: it is a label: what it is worth is what the hold of that sum in a sandbox is worth. -/
noncomputable def Yba.pinned : Pinned := { name := "ybulkbowq", sum := "eac8eae0dc083b1cefd9cb74fb673b2cabfa68b2dcbda5feae1095b746dcce3f", checked := Yba.checked }
namespace Rows
def none {H : Type} : Left H := { results := [], args := [] }

/-- 'node.LawS3279BRelease': WHATEVER THE INPUT: true; the input reads as it did. -/
def lawS3279BReleaseSpec : ChangeSpec := { name := "lawS3279BRelease", fn := fun _ => fun
  | [d] => { results := [.lit (.bool true)], args := [d] }
  | _ => none }
def lawS3279BReleaseRow : OpenClaim := { program := "ybulkbowq", sum := "eac8eae0dc083b1cefd9cb74fb673b2cabfa68b2dcbda5feae1095b746dcce3f", func := "example.com/polyagree/polyagree/node.LawS3279BRelease", spec := "lawS3279BRelease", apart := false }
def LawS3279BReleaseSaid : Prop := lawS3279BReleaseRow.holds Yba.pinned (OpenSpec.ofChange lawS3279BReleaseSpec)

/-- ITS FALSE NEIGHBOUR: 'it returns false'. Refute it at one input. -/
def lawS3279BReleaseWrong : ChangeSpec := { name := "lawS3279BRelease", fn := fun _ => fun
  | [d] => { results := [.lit (.bool false)], args := [d] }
  | _ => none }
def LawS3279BReleaseWrongFalsely : Prop := lawS3279BReleaseRow.holds Yba.pinned (OpenSpec.ofChange lawS3279BReleaseWrong)

end Rows
end Go.Proofs.Ybulkbowq
