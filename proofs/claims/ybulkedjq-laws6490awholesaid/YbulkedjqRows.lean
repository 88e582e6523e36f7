/-
  No cell of these rows narrows 'for every input' (looked for: loops, veiled, ifaces, maps, wideKeys, modest, calm, conditions, laid).
  DERIVED. THE GIVEN ROWS OF THIS SEAT. 1 by the template 'for every input the law returns true; each argument reads behind the call as it read before'; 0 by the template 'total and deterministic' (their statements: YbulkedjqTotals.lean).
  GIVEN WITH THE SEED: the statements are not yours to turn. If you find one false, say at which input.
  Laid BY PROGRAM, IN A SANDBOX (cutbox-rows.mjs): the forced cells as the released guide's own fill.sh prints them over the translation d3c0d8fec26028b0… (all of the seat's roots in one cut). By AI agents, Wed Nov 11 2026. No macro, syntax, notation, axiom, sorry.
-/
import Derived.Test.YbulkedjqChecked
import GoSem.Claim
import GoSem.ClaimJoined
import GoSem.ClaimMapViews
import Derived.JoinedTies
import Derived.KernelRfl
namespace Go.Proofs.Ybulkedjq
/- THE CELL 'sum', in the pinned program and in every row, IS THE sha256 OF THE DUMP (.gsa) THAT YbulkedjqProg.lean LOADS. Nothing in Lean hashes anything: it is a label: what it is worth is what the hold of that sum in a sandbox is worth. -/
noncomputable def Yba.pinned : Pinned := { name := "ybulkedjq", sum := "d3c0d8fec26028b0e32d8c26aa7bab718519ec9c0cb97b32e01e20e58d3108a8", checked := Yba.checked }
namespace Rows
def none {H : Type} : Left H := { results := [], args := [] }

/-- 'history.LawS6490AWhole': WHATEVER THE INPUT: true; the input reads as it did. -/
def lawS6490AWholeSpec : ChangeSpec := { name := "lawS6490AWhole", fn := fun _ => fun
  | [d1, d2, d3, d4, d5] => { results := [.lit (.bool true)], args := [d1, d2, d3, d4, d5] }
  | _ => none }
def lawS6490AWholeRow : OpenClaim := { program := "ybulkedjq", sum := "d3c0d8fec26028b0e32d8c26aa7bab718519ec9c0cb97b32e01e20e58d3108a8", func := "example.com/flowloom/flowloom/internal/history.LawS6490AWhole", spec := "lawS6490AWhole", unfollowed := true, recurses := true, plainKeys := false, apart := false }
def LawS6490AWholeSaid : Prop := lawS6490AWholeRow.holds Yba.pinned (OpenSpec.ofChange lawS6490AWholeSpec)

/-- ITS FALSE NEIGHBOUR: 'it returns false'. Refute it at one input. -/
def lawS6490AWholeWrong : ChangeSpec := { name := "lawS6490AWhole", fn := fun _ => fun
  | [d1, d2, d3, d4, d5] => { results := [.lit (.bool false)], args := [d1, d2, d3, d4, d5] }
  | _ => none }
def LawS6490AWholeWrongFalsely : Prop := lawS6490AWholeRow.holds Yba.pinned (OpenSpec.ofChange lawS6490AWholeWrong)

end Rows
end Go.Proofs.Ybulkedjq
