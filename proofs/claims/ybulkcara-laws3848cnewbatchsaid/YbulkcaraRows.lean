/-
  No cell of these rows narrows 'for every input' (looked for: loops, veiled, ifaces, maps, wideKeys, modest, calm, conditions, laid).
  DERIVED. THE GIVEN ROWS OF THIS SEAT. 1 by the template 'for every input the law returns true; each argument reads behind the call as it read before'; 0 by the template 'total and deterministic' (their statements: YbulkcaraTotals.lean).
  GIVEN WITH THE SEED: the statements are not yours to turn. If you find one false, say at which input.
  Laid BY PROGRAM, IN A SANDBOX (cutbox-rows.mjs): the forced cells as the released guide's own fill.sh prints them over the translation 5efd144e1fbe2bb0… (all of the seat's roots in one cut). By AI agents, Wed Nov 11 2026. No macro, syntax, notation, axiom, sorry.
-/
import Derived.Test.YbulkcaraChecked
import GoSem.Claim
import GoSem.ClaimJoined
import GoSem.ClaimMapViews
import Derived.JoinedTies
import Derived.KernelRfl
namespace Go.Proofs.Ybulkcara
/- THE CELL 'sum', in the pinned program and in every row, IS THE sha256 OF THE DUMP (.gsa) THAT YbulkcaraProg.lean LOADS. Nothing in Lean hashes anything: it is a label: what it is worth is what the hold of that sum in a sandbox is worth. -/
noncomputable def Yba.pinned : Pinned := { name := "ybulkcara", sum := "5efd144e1fbe2bb076b95d49892c5ff5655af687d5f1d069c4be2b5201926179", checked := Yba.checked }
namespace Rows
def none {H : Type} : Left H := { results := [], args := [] }

/-- 'format.LawS3848CNewBatch': WHATEVER THE INPUT: true; the input reads as it did. -/
def lawS3848CNewBatchSpec : ChangeSpec := { name := "lawS3848CNewBatch", fn := fun _ => fun
  | [d1, d2, d3, d4, d5] => { results := [.lit (.bool true)], args := [d1, d2, d3, d4, d5] }
  | _ => none }
def lawS3848CNewBatchRow : OpenClaim := { program := "ybulkcara", sum := "5efd144e1fbe2bb076b95d49892c5ff5655af687d5f1d069c4be2b5201926179", func := "example.com/quorum-clock/quorum-clock/format.LawS3848CNewBatch", spec := "lawS3848CNewBatch", apart := false }
def LawS3848CNewBatchSaid : Prop := lawS3848CNewBatchRow.holds Yba.pinned (OpenSpec.ofChange lawS3848CNewBatchSpec)

/-- ITS FALSE NEIGHBOUR: 'it returns false'. Refute it at one input. -/
def lawS3848CNewBatchWrong : ChangeSpec := { name := "lawS3848CNewBatch", fn := fun _ => fun
  | [d1, d2, d3, d4, d5] => { results := [.lit (.bool false)], args := [d1, d2, d3, d4, d5] }
  | _ => none }
def LawS3848CNewBatchWrongFalsely : Prop := lawS3848CNewBatchRow.holds Yba.pinned (OpenSpec.ofChange lawS3848CNewBatchWrong)

end Rows
end Go.Proofs.Ybulkcara
