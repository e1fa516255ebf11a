/-
  No cell of these rows narrows 'for every input' (looked for: loops, veiled, ifaces, maps, wideKeys, modest, calm, conditions, laid).
  DERIVED. THE GIVEN ROWS OF THIS SEAT. 1 by the template 'for every input the law returns true; each argument reads behind the call as it read before'; 0 by the template 'total and deterministic' (their statements: YbulkcazqTotals.lean).
  GIVEN WITH THE SEED: the statements are not yours to turn. If you find one false, say at which input.
  Laid BY PROGRAM, IN A SANDBOX (cutbox-rows.mjs): the forced cells as the released guide's own fill.sh prints them over the translation 26761b7bbfdae6a5… (all of the seat's roots in one cut). By AI agents, Wed Nov 11 2026. No macro, syntax, notation, axiom, sorry.
-/
import Derived.Test.YbulkcazqChecked
import GoSem.Claim
import GoSem.ClaimJoined
import GoSem.ClaimMapViews
import Derived.JoinedTies
import Derived.KernelRfl
namespace Go.Proofs.Ybulkcazq
/- THE CELL 'sum', in the pinned program and in every row, IS THE sha256 OF THE DUMP (.gsa) THAT YbulkcazqProg.lean LOADS. Nothing in Lean hashes anything: it is a label: what it is worth is what the hold of that sum in a sandbox is worth. -/
noncomputable def Yba.pinned : Pinned := { name := "ybulkcazq", sum := "26761b7bbfdae6a5b53b626e2dfb4e1f6df3209989c390094b03691d2899a074", checked := Yba.checked }
namespace Rows
def none {H : Type} : Left H := { results := [], args := [] }

/-- 'holdfast.LawS3864AScript': WHATEVER THE INPUT: true; the input reads as it did. -/
def lawS3864AScriptSpec : ChangeSpec := { name := "lawS3864AScript", fn := fun _ => fun
  | [d] => { results := [.lit (.bool true)], args := [d] }
  | _ => none }
def lawS3864AScriptRow : OpenClaim := { program := "ybulkcazq", sum := "26761b7bbfdae6a5b53b626e2dfb4e1f6df3209989c390094b03691d2899a074", func := "example.com/holdfast/holdfast.LawS3864AScript", spec := "lawS3864AScript", plainKeys := false, apart := false }
def LawS3864AScriptSaid : Prop := lawS3864AScriptRow.holds Yba.pinned (OpenSpec.ofChange lawS3864AScriptSpec)

/-- ITS FALSE NEIGHBOUR: 'it returns false'. Refute it at one input. -/
def lawS3864AScriptWrong : ChangeSpec := { name := "lawS3864AScript", fn := fun _ => fun
  | [d] => { results := [.lit (.bool false)], args := [d] }
  | _ => none }
def LawS3864AScriptWrongFalsely : Prop := lawS3864AScriptRow.holds Yba.pinned (OpenSpec.ofChange lawS3864AScriptWrong)

end Rows
end Go.Proofs.Ybulkcazq
