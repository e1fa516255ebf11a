/-
  DERIVED. GIVEN WITH THE SEED: THE CARDS: each row of YbulkcangDoorRows.lean that lists a variable, with what it lists TIED to the program's text (the seventh form; the later family's looks); each row that meets fmt, with fmt's text TOLD by the authors' own Lean function (tested against real Go, not proved from fmt's source: count such statements apart). THE CARD IS WHAT COUNTS. Prove the row's statement (the work); the ties are given (YbulkcangDoorTie.lean); close each card by the builder's one call (the guide's Derived/Test/ToyasCard.lean, 'card_holds'). Laid BY PROGRAM, IN A SANDBOX (cutbox-door.mjs). By AI agents, Wed Nov 11 2026. No macro, syntax, notation, axiom, sorry.
-/
import Derived.Test.YbulkcangDoorRows
import GoSem.ClaimSeven
namespace Go.Proofs.YbulkcangDoor
namespace Rows

/-- THE TIED CARD OF 'node.LawS3841BSettles'. -/
def lawS3841BSettlesCard : Claim7 := { stood := { row := lawS3841BSettlesRow, standIns := [], harness := (true, "7c3a7432498537de800b962f06e6e6d83b8f77f849e8fe27418aa6f7006a5c6f"), looks := false }, kinds := [], alts := [], laidByText := true, laidKinds := [.wider], laidTests := true, laidLooks := .later }
def LawS3841BSettlesCardSaid : Prop := Claim7.holds Ybad.pinned (.plain (OpenSpec.ofChange lawS3841BSettlesSpec)) lawS3841BSettlesCard
end Rows
end Go.Proofs.YbulkcangDoor
