import Derived.Test.YbulkasucDoorExactProof
import Derived.Test.YbulkasucDoorTie
import Derived.Test.YbulkasucDoorCards
import Derived.SevenTiedAt
namespace Go.Proofs.YbulkasucDoor
open Go

theorem lawS2212CExact_card : Rows.LawS2212CExactCardSaid :=
  Claim7.holds_tied_plain_at .later [] [.sentinel] true Rows.lawS2212CExactCard.stood.harness true
    lawS2212CExact.holds (fun _ h => by cases h) (by kernel_rfl) (fun _ h => by cases h) lawS2212CExact_row_tie rfl ⟨rfl, rfl⟩ (by kernel_rfl) rfl
    (fun f fn hf hfn => by
      obtain rfl : f = 3 := Option.some.inj ((show Ybad.prog.funcNamed Rows.lawS2212CExactRow.func = some 3 by kernel_rfl).symm.trans hf) |>.symm
      obtain rfl : fn = Ybad.f3 := (Option.some.inj (Ybad.func3.symm.trans hfn)).symm
      exact ⟨by kernel_rfl, fun j t ht => by
        rw [Ybad.params3] at ht
        have h3 : t = 22 ∨ t = 4 := by
          rcases j with _ | _ | j
          · left; simpa using ht.symm
          · right; simpa using ht.symm
          · simp at ht
        rcases h3 with rfl | rfl
        · exact (show Ybad.prog.wantsStandIn 22 = false by kernel_rfl)
        · exact (show Ybad.prog.wantsStandIn 4 = false by kernel_rfl)⟩)
    (by kernel_rfl)
end Go.Proofs.YbulkasucDoor
