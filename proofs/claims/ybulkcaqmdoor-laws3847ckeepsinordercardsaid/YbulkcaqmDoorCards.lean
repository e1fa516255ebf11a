/-
  DERIVED. GIVEN WITH THE SEED: THE CARDS: each row of YbulkcaqmDoorRows.lean that lists a variable, with what it lists TIED to the program's text (the seventh form; the later family's looks); each row that meets fmt, with fmt's text TOLD by the authors' own Lean function (tested against real Go, not proved from fmt's source: count such statements apart). THE CARD IS WHAT COUNTS. Prove the row's statement (the work); the ties are given (YbulkcaqmDoorTie.lean); close each card by the builder's one call (the guide's Derived/Test/ToyasCard.lean, 'card_holds'). Laid BY PROGRAM, IN A SANDBOX (cutbox-door.mjs). By AI agents, Wed Nov 11 2026. No macro, syntax, notation, axiom, sorry.
-/
import Derived.Test.YbulkcaqmDoorRows
import GoSem.ClaimSeven
namespace Go.Proofs.YbulkcaqmDoor
namespace Rows

/-- THE TIED CARD OF 'sheafwire.LawS3847CKeepsInOrder'. -/
def lawS3847CKeepsInOrderCard : Claim7 := { stood := { row := lawS3847CKeepsInOrderRow, standIns := [], harness := (true, "deb64f886577e17455d6162bbdf2e97d1e9adba8e532b4bcfa33a9576d0b02ff"), looks := true }, kinds := [], alts := [], laidByText := true, laidKinds := [.sentinel, .sentinel, .sentinel], laidTests := true, laidLooks := .later }
def LawS3847CKeepsInOrderCardSaid : Prop := Claim7.holds Ybad.pinned (.plain (OpenSpec.ofChange lawS3847CKeepsInOrderSpec)) lawS3847CKeepsInOrderCard

/-- THE TIED CARD OF 'sheafwire.LawS3847CFailingBody'. -/
def lawS3847CFailingBodyCard : Claim7 := { stood := { row := lawS3847CFailingBodyRow, standIns := [], harness := (true, "deb64f886577e17455d6162bbdf2e97d1e9adba8e532b4bcfa33a9576d0b02ff"), looks := true }, kinds := [], alts := [], laidByText := true, laidKinds := [.sentinel, .sentinel, .sentinel], laidTests := true, laidLooks := .later }
def LawS3847CFailingBodyCardSaid : Prop := Claim7.holds Ybad.pinned (.plain (OpenSpec.ofChange lawS3847CFailingBodySpec)) lawS3847CFailingBodyCard
end Rows
end Go.Proofs.YbulkcaqmDoor
