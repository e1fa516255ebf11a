import Derived.Test.YbulkcangDoorRowProof
import Derived.Test.YbulkcangDoorTie
import Derived.Test.YbulkcangDoorCards
import Derived.SevenTiedAt
namespace Go.Proofs.YbulkcangDoor.CardProof
open Go

theorem proved : Rows.LawS3841BSettlesCardSaid :=
  Claim7.holds_tied_plain_at .later [] [.wider] true (true, "7c3a7432498537de800b962f06e6e6d83b8f77f849e8fe27418aa6f7006a5c6f") false
    RowProof.over (fun _ h => by cases h) (by kernel_rfl) (fun _ h => by cases h) lawS3841BSettles_row_tie rfl ⟨rfl, rfl⟩ (by kernel_rfl) rfl
    (fun f fn hf hfn => by
      obtain rfl : f = 3 := Option.some.inj ((show Ybad.prog.funcNamed "example.com/trunkline/trunkline/node.LawS3841BSettles" = some 3 by kernel_rfl).symm.trans hf) |>.symm
      obtain rfl : fn = Ybad.f3 := (Option.some.inj (Ybad.func3.symm.trans hfn)).symm
      exact ⟨by kernel_rfl, fun j t ht => by
        rw [Ybad.params3] at ht
        have h3 : t = 22 ∨ t = 9 ∨ t = 5 := by
          rcases j with _ | _ | _ | j
          · left; simpa using ht.symm
          · right; left; simpa using ht.symm
          · right; right; simpa using ht.symm
          · simp at ht
        rcases h3 with rfl | rfl | rfl
        · exact (show Ybad.prog.wantsStandIn 22 = false by kernel_rfl)
        · exact (show Ybad.prog.wantsStandIn 9 = false by kernel_rfl)
        · exact (show Ybad.prog.wantsStandIn 5 = false by kernel_rfl)⟩)
    (by kernel_rfl)
end Go.Proofs.YbulkcangDoor.CardProof
