import Derived.Test.YbulkagdqDoorX1
namespace Go.Proofs.YbulkagdqDoor
open Go

theorem Ybad.noStandIns3 : (Ybad.f3.params.all fun t => Ybad.prog.wantsStandIn t == false) = true := by kernel_rfl

/-- THE CARD, out of the row. -/
theorem resettle_card_of (RT : WalkT) : Rows.LawS1602AResettleCardSaid :=
  Claim7.holds_tied_plain_at .later [] [.handle, .sentinel] true Rows.lawS1602AResettleCard.stood.harness true
    (resettle_row RT) (fun _ h => by cases h) (by kernel_rfl) (fun _ h => by cases h) lawS1602AResettle_row_tie rfl ⟨rfl, rfl⟩ (by kernel_rfl) rfl
    (fun f fn hf hfn => by
      obtain rfl : f = 3 := Option.some.inj ((show Ybad.prog.funcNamed Rows.lawS1602AResettleRow.func = some 3 by kernel_rfl).symm.trans hf) |>.symm
      obtain rfl : fn = Ybad.f3 := (Option.some.inj (Ybad.func3.symm.trans hfn)).symm
      exact ⟨by kernel_rfl, fun j t ht => by
        have h := Array.all_eq_true.1 Ybad.noStandIns3
        obtain ⟨hj, hjt⟩ := Array.getElem?_eq_some_iff.1 ht
        have := h j hj
        rw [hjt] at this
        exact (show Ybad.prog.wantsStandIn t = false by simpa using this)⟩)
    (by kernel_rfl)
end Go.Proofs.YbulkagdqDoor
