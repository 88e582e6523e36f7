/-
  The tied card of the seat: the row's statement (YbulkedcqDoorProof) closed by the builder's one call over the given tie.
-/
import Derived.Test.YbulkedcqDoorProof
import Derived.Test.YbulkedcqDoorTie
import Derived.Test.YbulkedcqDoorCards
import Derived.SevenTiedAt
namespace Go.Proofs.YbulkedcqDoor
open Go

theorem card_holds : Rows.LawS6477CWholeCardSaid :=
  Claim7.holds_tied_plain_at .later [] [.called, .widerDeep] true Rows.lawS6477CWholeCard.stood.harness true
    row_holds (fun _ h => by cases h) (by kernel_rfl) (fun _ h => by cases h) lawS6477CWhole_row_tie rfl ⟨rfl, rfl⟩ (by kernel_rfl) rfl
    (fun f fn hf hfn => by
      obtain rfl : f = 3 := Option.some.inj ((show Ybad.prog.funcNamed Rows.lawS6477CWholeRow.func = some 3 by kernel_rfl).symm.trans hf) |>.symm
      obtain rfl : fn = Ybad.f3 := (Option.some.inj (Ybad.func3.symm.trans hfn)).symm
      exact ⟨by kernel_rfl, fun j t ht => by
        rw [Ybad.params3] at ht
        have hm : t ∈ [3, 22, 23, 4, 22, 22, 4, 3] := by simpa using Array.mem_of_getElem? ht
        have hall : ([3, 22, 23, 4, 22, 22, 4, 3].all fun u => !Ybad.prog.wantsStandIn u) = true := by kernel_rfl
        exact (show Ybad.prog.wantsStandIn t = false by simpa using List.all_eq_true.1 hall t hm)⟩)
    (by kernel_rfl)
end Go.Proofs.YbulkedcqDoor
