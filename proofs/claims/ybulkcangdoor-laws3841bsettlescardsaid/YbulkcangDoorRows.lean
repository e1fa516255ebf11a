/-
  NARROWER THAN 'FOR EVERY INPUT', by the rows' own cells (each row's printed sentence says how): LawS3841BSettles: laid.
  DERIVED. THE GIVEN ROWS OF THIS SEAT. 1 by the template 'for every input the law returns true; each argument reads behind the call as it read before'; 0 by the template 'total and deterministic' (their statements: YbulkcangDoorTotals.lean).
  GIVEN WITH THE SEED: the statements are not yours to turn. If you find one false, say at which input.
  Laid BY PROGRAM, IN A SANDBOX (cutbox-rows.mjs): the forced cells as the released guide's own fill.sh prints them over the translation 09e8f37c2384e1e0… (all of the seat's roots in one cut). By AI agents, Wed Nov 11 2026. No macro, syntax, notation, axiom, sorry.
-/
import Derived.Test.YbulkcangDoorChecked
import GoSem.Claim
import GoSem.ClaimJoined
import GoSem.ClaimMapViews
import Derived.JoinedTies
import Derived.KernelRfl
namespace Go.Proofs.YbulkcangDoor
/- THE CELL 'sum', in the pinned program and in every row, IS THE sha256 OF THE DUMP (.gsa) THAT YbulkcangDoorProg.lean LOADS. Nothing in Lean hashes anything: it is a label: what it is worth is what the hold of that sum in a sandbox is worth. -/
noncomputable def Ybad.pinned : Pinned := { name := "ybulkcangdoor", sum := "09e8f37c2384e1e0189fdea492e337d88e4b5746b07ae90b6796f3f90b6a57fc", checked := Ybad.checked }
namespace Rows
def none {H : Type} : Left H := { results := [], args := [] }

/- WHAT THE LISTED PACKAGE-LEVEL VARIABLES READ AS WHEN THE CALL BEGINS. Each datum BY PROGRAM (the guide's laid-datum.mjs) off the statement by which the dump's own 'gosem.cut.vars' lays the variable. In a bare row this is a premise. The card (YbulkcangDoorCards.lean) ties it to the program's text. -/
def laid_example_com_trunkline_trunkline_circuit_stateNames {H : Type} : DataW H := .agg [.lit (.string [105, 100, 108, 101]), .lit (.string [115, 101, 105, 122, 101, 100]), .lit (.string [97, 108, 101, 114, 116, 105, 110, 103]), .lit (.string [97, 110, 115, 119, 101, 114, 101, 100]), .lit (.string [114, 101, 108, 101, 97, 115, 105, 110, 103])]

/-- 'node.LawS3841BSettles': WHATEVER THE INPUT: true; the input reads as it did. -/
def lawS3841BSettlesSpec : ChangeSpec := { name := "lawS3841BSettles", vars := ["example.com/trunkline/trunkline/circuit.stateNames"], fn := fun _ => fun
  | [d1, d2, d3, g1] => { results := [.lit (.bool true)], args := [d1, d2, d3], vars := [g1] }
  | _ => none }
def lawS3841BSettlesRow : OpenClaim := { program := "ybulkcangdoor", sum := "09e8f37c2384e1e0189fdea492e337d88e4b5746b07ae90b6796f3f90b6a57fc", func := "example.com/trunkline/trunkline/node.LawS3841BSettles", spec := "lawS3841BSettles", inPlace := ["time.stopTimer"], unfollowed := true, recurses := true, named := ["example.com/trunkline/trunkline/circuit.stateNames"], apart := false, laid := [("example.com/trunkline/trunkline/circuit.stateNames", laid_example_com_trunkline_trunkline_circuit_stateNames)] }
def LawS3841BSettlesSaid : Prop := lawS3841BSettlesRow.holds Ybad.pinned (OpenSpec.ofChange lawS3841BSettlesSpec)

/-- ITS FALSE NEIGHBOUR: 'it returns false'. Refute it at one input. -/
def lawS3841BSettlesWrong : ChangeSpec := { name := "lawS3841BSettles", vars := ["example.com/trunkline/trunkline/circuit.stateNames"], fn := fun _ => fun
  | [d1, d2, d3, g1] => { results := [.lit (.bool false)], args := [d1, d2, d3], vars := [g1] }
  | _ => none }
def LawS3841BSettlesWrongFalsely : Prop := lawS3841BSettlesRow.holds Ybad.pinned (OpenSpec.ofChange lawS3841BSettlesWrong)

end Rows
end Go.Proofs.YbulkcangDoor
