/-
  No cell of these rows narrows 'for every input' (looked for: loops, veiled, ifaces, maps, wideKeys, modest, calm, conditions, laid).
  DERIVED. THE GIVEN ROWS OF THIS SEAT. 4 by the template 'for every input the law returns true; each argument reads behind the call as it read before'; 0 by the template 'total and deterministic' (their statements: YbulkcaqmTotals.lean).
  GIVEN WITH THE SEED: the statements are not yours to turn. If you find one false, say at which input.
  Laid BY PROGRAM, IN A SANDBOX (cutbox-rows.mjs): the forced cells as the released guide's own fill.sh prints them over the translation 8b8c6ced75c68aec… (all of the seat's roots in one cut). By AI agents, Wed Nov 11 2026. No macro, syntax, notation, axiom, sorry.
-/
import Derived.Test.YbulkcaqmChecked
import GoSem.Claim
import GoSem.ClaimJoined
import GoSem.ClaimMapViews
import Derived.JoinedTies
import Derived.KernelRfl
namespace Go.Proofs.Ybulkcaqm
/- THE CELL 'sum', in the pinned program and in every row, IS THE sha256 OF THE DUMP (.gsa) THAT YbulkcaqmProg.lean LOADS. Nothing in Lean hashes anything: it is a label: what it is worth is what the hold of that sum in a sandbox is worth. -/
noncomputable def Yba.pinned : Pinned := { name := "ybulkcaqm", sum := "8b8c6ced75c68aec4b463b708c79e3a4f48203acbb0175afa309c06d8691ddb5", checked := Yba.checked }
namespace Rows
def none {H : Type} : Left H := { results := [], args := [] }

/-- 'gateway.LawS3847ATurn': WHATEVER THE INPUT: true; the input reads as it did. -/
def lawS3847ATurnSpec : ChangeSpec := { name := "lawS3847ATurn", fn := fun _ => fun
  | [d1, d2] => { results := [.lit (.bool true)], args := [d1, d2] }
  | _ => none }
def lawS3847ATurnRow : OpenClaim := { program := "ybulkcaqm", sum := "8b8c6ced75c68aec4b463b708c79e3a4f48203acbb0175afa309c06d8691ddb5", func := "example.com/sheafwire/sheafwire/internal/gateway.LawS3847ATurn", spec := "lawS3847ATurn", inPlace := ["(*internal/sync.Mutex).Lock", "internal/race.Disable", "sync/atomic.CompareAndSwapInt32", "internal/race.Enable", "internal/race.Acquire", "(*internal/sync.Mutex).lockSlow", "internal/sync.runtime_canSpin", "internal/sync.runtime_doSpin", "internal/sync.throw", "internal/sync.runtime_nanotime", "internal/sync.runtime_SemacquireMutex", "sync/atomic.AddInt32", "(*internal/sync.Mutex).Unlock", "internal/race.ReleaseMerge", "(*internal/sync.Mutex).unlockSlow", "internal/sync.fatal", "internal/sync.runtime_Semrelease"], apart := false }
def LawS3847ATurnSaid : Prop := lawS3847ATurnRow.holds Yba.pinned (OpenSpec.ofChange lawS3847ATurnSpec)

/-- ITS FALSE NEIGHBOUR: 'it returns false'. Refute it at one input. -/
def lawS3847ATurnWrong : ChangeSpec := { name := "lawS3847ATurn", fn := fun _ => fun
  | [d1, d2] => { results := [.lit (.bool false)], args := [d1, d2] }
  | _ => none }
def LawS3847ATurnWrongFalsely : Prop := lawS3847ATurnRow.holds Yba.pinned (OpenSpec.ofChange lawS3847ATurnWrong)

/-- 'sheafwire.LawS3847BTable': WHATEVER THE INPUT: true; the input reads as it did. -/
def lawS3847BTableSpec : ChangeSpec := { name := "lawS3847BTable", fn := fun _ => fun
  | [d1, d2, d3] => { results := [.lit (.bool true)], args := [d1, d2, d3] }
  | _ => none }
def lawS3847BTableRow : OpenClaim := { program := "ybulkcaqm", sum := "8b8c6ced75c68aec4b463b708c79e3a4f48203acbb0175afa309c06d8691ddb5", func := "example.com/sheafwire/sheafwire.LawS3847BTable", spec := "lawS3847BTable", apart := false }
def LawS3847BTableSaid : Prop := lawS3847BTableRow.holds Yba.pinned (OpenSpec.ofChange lawS3847BTableSpec)

/-- ITS FALSE NEIGHBOUR: 'it returns false'. Refute it at one input. -/
def lawS3847BTableWrong : ChangeSpec := { name := "lawS3847BTable", fn := fun _ => fun
  | [d1, d2, d3] => { results := [.lit (.bool false)], args := [d1, d2, d3] }
  | _ => none }
def LawS3847BTableWrongFalsely : Prop := lawS3847BTableRow.holds Yba.pinned (OpenSpec.ofChange lawS3847BTableWrong)

/-- 'sheafwire.LawS3847BFold': WHATEVER THE INPUT: true; the input reads as it did. -/
def lawS3847BFoldSpec : ChangeSpec := { name := "lawS3847BFold", fn := fun _ => fun
  | [d] => { results := [.lit (.bool true)], args := [d] }
  | _ => none }
def lawS3847BFoldRow : OpenClaim := { program := "ybulkcaqm", sum := "8b8c6ced75c68aec4b463b708c79e3a4f48203acbb0175afa309c06d8691ddb5", func := "example.com/sheafwire/sheafwire.LawS3847BFold", spec := "lawS3847BFold", apart := false }
def LawS3847BFoldSaid : Prop := lawS3847BFoldRow.holds Yba.pinned (OpenSpec.ofChange lawS3847BFoldSpec)

/-- ITS FALSE NEIGHBOUR: 'it returns false'. Refute it at one input. -/
def lawS3847BFoldWrong : ChangeSpec := { name := "lawS3847BFold", fn := fun _ => fun
  | [d] => { results := [.lit (.bool false)], args := [d] }
  | _ => none }
def LawS3847BFoldWrongFalsely : Prop := lawS3847BFoldRow.holds Yba.pinned (OpenSpec.ofChange lawS3847BFoldWrong)

/-- 'sheafwire.LawS3847BSee': WHATEVER THE INPUT: true; the input reads as it did. -/
def lawS3847BSeeSpec : ChangeSpec := { name := "lawS3847BSee", fn := fun _ => fun
  | [d1, d2] => { results := [.lit (.bool true)], args := [d1, d2] }
  | _ => none }
def lawS3847BSeeRow : OpenClaim := { program := "ybulkcaqm", sum := "8b8c6ced75c68aec4b463b708c79e3a4f48203acbb0175afa309c06d8691ddb5", func := "example.com/sheafwire/sheafwire.LawS3847BSee", spec := "lawS3847BSee", inPlace := ["internal/bytealg.IndexByte"], apart := false }
def LawS3847BSeeSaid : Prop := lawS3847BSeeRow.holds Yba.pinned (OpenSpec.ofChange lawS3847BSeeSpec)

/-- ITS FALSE NEIGHBOUR: 'it returns false'. Refute it at one input. -/
def lawS3847BSeeWrong : ChangeSpec := { name := "lawS3847BSee", fn := fun _ => fun
  | [d1, d2] => { results := [.lit (.bool false)], args := [d1, d2] }
  | _ => none }
def LawS3847BSeeWrongFalsely : Prop := lawS3847BSeeRow.holds Yba.pinned (OpenSpec.ofChange lawS3847BSeeWrong)

end Rows
end Go.Proofs.Ybulkcaqm
