/-
  DERIVED. GIVEN WITH THE SEED: THE CARDS: each row of YbulkedcqDoorRows.lean that lists a variable, with what it lists TIED to the program's text (the seventh form; the later family's looks); each row that meets fmt, with fmt's text TOLD by the authors' own Lean function (tested against real Go, not proved from fmt's source: count such statements apart). THE CARD IS WHAT COUNTS. Prove the row's statement (the work); the ties are given (YbulkedcqDoorTie.lean); close each card by the builder's one call (the guide's Derived/Test/ToyasCard.lean, 'card_holds'). Laid BY PROGRAM, IN A SANDBOX (cutbox-door.mjs). By AI agents, Wed Nov 11 2026. No macro, syntax, notation, axiom, sorry.
-/
import Derived.Test.YbulkedcqDoorRows
import GoSem.ClaimSeven
namespace Go.Proofs.YbulkedcqDoor
namespace Rows

/-- THE TIED CARD OF 'proxy.LawS6477CWhole'. -/
def lawS6477CWholeCard : Claim7 := { stood := { row := lawS6477CWholeRow, standIns := [], harness := (true, "cc09e9620caca02cd008f4562bef5e2ccad432ab90e9945cd62beee253db7c81"), looks := true }, kinds := [], alts := [], laidByText := true, laidKinds := [.called, .widerDeep], laidTests := true, laidLooks := .later }
def LawS6477CWholeCardSaid : Prop := Claim7.holds Ybad.pinned (.plain (OpenSpec.ofChange lawS6477CWholeSpec)) lawS6477CWholeCard
end Rows
end Go.Proofs.YbulkedcqDoor
