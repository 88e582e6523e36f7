/-
  No cell of these rows narrows 'for every input' (looked for: loops, veiled, ifaces, maps, wideKeys, modest, calm, conditions, laid).
  DERIVED. THE GIVEN ROWS OF THIS SEAT. 1 by the template 'for every input the law returns true; each argument reads behind the call as it read before'; 0 by the template 'total and deterministic' (their statements: YbulkedccTotals.lean).
  GIVEN WITH THE SEED: the statements are not yours to turn. If you find one false, say at which input.
  Laid BY PROGRAM, IN A SANDBOX (cutbox-rows.mjs): the forced cells as the released guide's own fill.sh prints them over the translation 5a3c3d778a1928a6… (all of the seat's roots in one cut). By AI agents, Wed Nov 11 2026. No macro, syntax, notation, axiom, sorry.
-/
import Derived.Test.YbulkedccChecked
import GoSem.Claim
import GoSem.ClaimJoined
import GoSem.ClaimMapViews
import Derived.JoinedTies
import Derived.KernelRfl
namespace Go.Proofs.Ybulkedcc
/- THE CELL 'sum', in the pinned program and in every row, IS THE sha256 OF THE DUMP (.gsa) THAT YbulkedccProg.lean LOADS. Nothing in Lean hashes anything: it is a label: what it is worth is what the hold of that sum in a sandbox is worth. -/
noncomputable def Yba.pinned : Pinned := { name := "ybulkedcc", sum := "5a3c3d778a1928a64e0df153160230785d28984fc482b57f4e0c7b8fe6304a1b", checked := Yba.checked }
namespace Rows
def none {H : Type} : Left H := { results := [], args := [] }

/-- 'procfile.LawS6476BWhole': WHATEVER THE INPUT: true; the input reads as it did. -/
def lawS6476BWholeSpec : ChangeSpec := { name := "lawS6476BWhole", fn := fun _ => fun
  | [d1, d2] => { results := [.lit (.bool true)], args := [d1, d2] }
  | _ => none }
def lawS6476BWholeRow : OpenClaim := { program := "ybulkedcc", sum := "5a3c3d778a1928a64e0df153160230785d28984fc482b57f4e0c7b8fe6304a1b", func := "example.com/proclint/proclint/internal/procfile.LawS6476BWhole", spec := "lawS6476BWhole", apart := false }
def LawS6476BWholeSaid : Prop := lawS6476BWholeRow.holds Yba.pinned (OpenSpec.ofChange lawS6476BWholeSpec)

/-- ITS FALSE NEIGHBOUR: 'it returns false'. Refute it at one input. -/
def lawS6476BWholeWrong : ChangeSpec := { name := "lawS6476BWhole", fn := fun _ => fun
  | [d1, d2] => { results := [.lit (.bool false)], args := [d1, d2] }
  | _ => none }
def LawS6476BWholeWrongFalsely : Prop := lawS6476BWholeRow.holds Yba.pinned (OpenSpec.ofChange lawS6476BWholeWrong)

end Rows
end Go.Proofs.Ybulkedcc
