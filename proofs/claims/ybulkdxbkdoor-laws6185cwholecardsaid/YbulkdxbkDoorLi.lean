import Derived.Test.YbulkdxbkDoorLh
import Derived.Test.YbulkdxbkDoorCards
import Derived.Test.YbulkdxbkDoorTie
import Derived.SevenTiedAt
namespace Go.Proofs.YbulkdxbkDoor
open Go

/-- THE STATEMENT -/
theorem lawS6185CWhole_card : Rows.LawS6185CWholeCardSaid :=
  Claim7.holds_tied_plain_at .later [] [.data] true (true, "10add70de24fb858b60d57536963fcc7a665ac35eea0fe5c26038052717fefae") false
    over (fun _ h => by cases h) (by kernel_rfl) (fun _ h => by cases h) lawS6185CWhole_row_tie rfl ⟨rfl, rfl⟩ (by kernel_rfl) rfl
    (fun f fn hf hfn => by
      obtain rfl : f = 4 := Option.some.inj ((show Ybad.prog.funcNamed "example.com/nullmove/nullmove.LawS6185CWhole" = some 4 by kernel_rfl).symm.trans hf) |>.symm
      obtain rfl : fn = Ybad.f4 := (Option.some.inj (Ybad.func4.symm.trans hfn)).symm
      exact ⟨by kernel_rfl, fun j t ht => by
        rw [Ybad.params4] at ht
        have h5 : t = 41 ∨ t = 42 ∨ t = 43 ∨ t = 44 := by
          rcases j with _ | _ | _ | _ | _ | j
          · exact .inl (by simpa using ht.symm)
          · exact .inr (.inl (by simpa using ht.symm))
          · exact .inr (.inr (.inl (by simpa using ht.symm)))
          · exact .inr (.inr (.inl (by simpa using ht.symm)))
          · exact .inr (.inr (.inr (by simpa using ht.symm)))
          · simp at ht
        rcases h5 with rfl | rfl | rfl | rfl
        · exact (show Ybad.prog.wantsStandIn 41 = false by kernel_rfl)
        · exact (show Ybad.prog.wantsStandIn 42 = false by kernel_rfl)
        · exact (show Ybad.prog.wantsStandIn 43 = false by kernel_rfl)
        · exact (show Ybad.prog.wantsStandIn 44 = false by kernel_rfl)⟩)
    (by kernel_rfl)
end Go.Proofs.YbulkdxbkDoor
