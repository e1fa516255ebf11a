/-
  NARROWER THAN 'FOR EVERY INPUT', by the rows' own cells (each row's printed sentence says how): LawS3847CKeepsInOrder: laid · LawS3847CFailingBody: laid.
  DERIVED. THE GIVEN ROWS OF THIS SEAT. 3 by the template 'for every input the law returns true; each argument reads behind the call as it read before'; 0 by the template 'total and deterministic' (their statements: YbulkcaqmDoorTotals.lean).
  GIVEN WITH THE SEED: the statements are not yours to turn. If you find one false, say at which input.
  Laid BY PROGRAM, IN A SANDBOX (cutbox-rows.mjs): the forced cells as the released guide's own fill.sh prints them over the translation 31d24c7a212b5a77… (all of the seat's roots in one cut). By AI agents, Wed Nov 11 2026. No macro, syntax, notation, axiom, sorry.
-/
import Derived.Test.YbulkcaqmDoorChecked
import GoSem.Claim
import GoSem.ClaimJoined
import GoSem.ClaimMapViews
import Derived.JoinedTies
import Derived.KernelRfl
namespace Go.Proofs.YbulkcaqmDoor
/- THE CELL 'sum', in the pinned program and in every row, IS THE sha256 OF THE DUMP (.gsa) THAT YbulkcaqmDoorProg.lean LOADS. Nothing in Lean hashes anything: it is a label: what it is worth is what the hold of that sum in a sandbox is worth. -/
noncomputable def Ybad.pinned : Pinned := { name := "ybulkcaqmdoor", sum := "31d24c7a212b5a774ef8b5a9323001cc5a1a6ce078ad109988b4af0e44b89a53", checked := Ybad.checked }
namespace Rows
def none {H : Type} : Left H := { results := [], args := [] }

/- WHAT THE LISTED PACKAGE-LEVEL VARIABLES READ AS WHEN THE CALL BEGINS. Each datum BY PROGRAM (the guide's laid-datum.mjs) off the statement by which the dump's own 'gosem.cut.vars' lays the variable. In a bare row this is a premise. The card (YbulkcaqmDoorCards.lean) ties it to the program's text. -/
def laid_io_ErrShortWrite {H : Type} : DataW H := .iface "*errors.errorString" (.ptr (.agg [.lit (.string [115, 104, 111, 114, 116, 32, 119, 114, 105, 116, 101])]))
def laid_io_EOF {H : Type} : DataW H := .iface "*errors.errorString" (.ptr (.agg [.lit (.string [69, 79, 70])]))
def laid_io_ErrNoProgress {H : Type} : DataW H := .iface "*errors.errorString" (.ptr (.agg [.lit (.string [109, 117, 108, 116, 105, 112, 108, 101, 32, 82, 101, 97, 100, 32, 99, 97, 108, 108, 115, 32, 114, 101, 116, 117, 114, 110, 32, 110, 111, 32, 100, 97, 116, 97, 32, 111, 114, 32, 101, 114, 114, 111, 114])]))

/-- 'gateway.LawS3847ASiblings': WHATEVER THE INPUT: true; the input reads as it did. -/
def lawS3847ASiblingsSpec : ChangeSpec := { name := "lawS3847ASiblings", fn := fun _ => fun
  | [d1, d2, d3, d4] => { results := [.lit (.bool true)], args := [d1, d2, d3, d4] }
  | _ => none }
def lawS3847ASiblingsRow : OpenClaim := { program := "ybulkcaqmdoor", sum := "31d24c7a212b5a774ef8b5a9323001cc5a1a6ce078ad109988b4af0e44b89a53", func := "example.com/sheafwire/sheafwire/internal/gateway.LawS3847ASiblings", spec := "lawS3847ASiblings", inPlace := ["(*internal/sync.Mutex).Lock", "internal/race.Disable", "sync/atomic.CompareAndSwapInt32", "internal/race.Enable", "internal/race.Acquire", "(*internal/sync.Mutex).lockSlow", "internal/sync.runtime_canSpin", "internal/sync.runtime_doSpin", "internal/sync.throw", "internal/sync.runtime_nanotime", "internal/sync.runtime_SemacquireMutex", "sync/atomic.AddInt32", "(*internal/sync.Mutex).Unlock", "internal/race.ReleaseMerge", "(*internal/sync.Mutex).unlockSlow", "internal/sync.fatal", "internal/sync.runtime_Semrelease", "time.runtimeNow", "time.runtimeNano", "time.resetTimer", "time.stopTimer", "time.runtimeIsBubbled"], unfollowed := true, recurses := true, named := ["time.Local", "time.startNano"], apart := false }
def LawS3847ASiblingsSaid : Prop := lawS3847ASiblingsRow.holds Ybad.pinned (OpenSpec.ofChange lawS3847ASiblingsSpec)

/-- ITS FALSE NEIGHBOUR: 'it returns false'. Refute it at one input. -/
def lawS3847ASiblingsWrong : ChangeSpec := { name := "lawS3847ASiblings", fn := fun _ => fun
  | [d1, d2, d3, d4] => { results := [.lit (.bool false)], args := [d1, d2, d3, d4] }
  | _ => none }
def LawS3847ASiblingsWrongFalsely : Prop := lawS3847ASiblingsRow.holds Ybad.pinned (OpenSpec.ofChange lawS3847ASiblingsWrong)

/-- 'sheafwire.LawS3847CKeepsInOrder': WHATEVER THE INPUT: true; the input reads as it did. -/
def lawS3847CKeepsInOrderSpec : ChangeSpec := { name := "lawS3847CKeepsInOrder", fn := fun _ => fun
  | [d1, d2, d3] => { results := [.lit (.bool true)], args := [d1, d2, d3] }
  | _ => none }
def lawS3847CKeepsInOrderRow : OpenClaim := { program := "ybulkcaqmdoor", sum := "31d24c7a212b5a774ef8b5a9323001cc5a1a6ce078ad109988b4af0e44b89a53", func := "example.com/sheafwire/sheafwire.LawS3847CKeepsInOrder", spec := "lawS3847CKeepsInOrder", unfollowed := true, recurses := true, named := ["io.ErrNoProgress", "io.EOF", "io.ErrShortWrite"], apart := false, laid := [("io.ErrShortWrite", laid_io_ErrShortWrite), ("io.EOF", laid_io_EOF), ("io.ErrNoProgress", laid_io_ErrNoProgress)] }
def LawS3847CKeepsInOrderSaid : Prop := lawS3847CKeepsInOrderRow.holds Ybad.pinned (OpenSpec.ofChange lawS3847CKeepsInOrderSpec)

/-- ITS FALSE NEIGHBOUR: 'it returns false'. Refute it at one input. -/
def lawS3847CKeepsInOrderWrong : ChangeSpec := { name := "lawS3847CKeepsInOrder", fn := fun _ => fun
  | [d1, d2, d3] => { results := [.lit (.bool false)], args := [d1, d2, d3] }
  | _ => none }
def LawS3847CKeepsInOrderWrongFalsely : Prop := lawS3847CKeepsInOrderRow.holds Ybad.pinned (OpenSpec.ofChange lawS3847CKeepsInOrderWrong)

/-- 'sheafwire.LawS3847CFailingBody': WHATEVER THE INPUT: true; the input reads as it did. -/
def lawS3847CFailingBodySpec : ChangeSpec := { name := "lawS3847CFailingBody", fn := fun _ => fun
  | [d1, d2, d3, d4] => { results := [.lit (.bool true)], args := [d1, d2, d3, d4] }
  | _ => none }
def lawS3847CFailingBodyRow : OpenClaim := { program := "ybulkcaqmdoor", sum := "31d24c7a212b5a774ef8b5a9323001cc5a1a6ce078ad109988b4af0e44b89a53", func := "example.com/sheafwire/sheafwire.LawS3847CFailingBody", spec := "lawS3847CFailingBody", inPlace := ["internal/reflectlite.TypeOf"], unfollowed := true, recurses := true, named := ["io.ErrNoProgress", "io.EOF", "io.ErrShortWrite"], apart := false, laid := [("io.ErrShortWrite", laid_io_ErrShortWrite), ("io.EOF", laid_io_EOF), ("io.ErrNoProgress", laid_io_ErrNoProgress)] }
def LawS3847CFailingBodySaid : Prop := lawS3847CFailingBodyRow.holds Ybad.pinned (OpenSpec.ofChange lawS3847CFailingBodySpec)

/-- ITS FALSE NEIGHBOUR: 'it returns false'. Refute it at one input. -/
def lawS3847CFailingBodyWrong : ChangeSpec := { name := "lawS3847CFailingBody", fn := fun _ => fun
  | [d1, d2, d3, d4] => { results := [.lit (.bool false)], args := [d1, d2, d3, d4] }
  | _ => none }
def LawS3847CFailingBodyWrongFalsely : Prop := lawS3847CFailingBodyRow.holds Ybad.pinned (OpenSpec.ofChange lawS3847CFailingBodyWrong)

end Rows
end Go.Proofs.YbulkcaqmDoor
