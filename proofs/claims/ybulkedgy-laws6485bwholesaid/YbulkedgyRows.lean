/-
  No cell of these rows narrows 'for every input' (looked for: loops, veiled, ifaces, maps, wideKeys, modest, calm, conditions, laid).
  DERIVED. THE GIVEN ROWS OF THIS SEAT. 2 by the template 'for every input the law returns true; each argument reads behind the call as it read before'; 0 by the template 'total and deterministic' (their statements: YbulkedgyTotals.lean).
  GIVEN WITH THE SEED: the statements are not yours to turn. If you find one false, say at which input.
  Laid BY PROGRAM, IN A SANDBOX (cutbox-rows.mjs): the forced cells as the released guide's own fill.sh prints them over the translation 5b7638f68ebdc32a… (all of the seat's roots in one cut). By AI agents, Wed Nov 11 2026. No macro, syntax, notation, axiom, sorry.
-/
import Derived.Test.YbulkedgyChecked
import GoSem.Claim
import GoSem.ClaimJoined
import GoSem.ClaimMapViews
import Derived.JoinedTies
import Derived.KernelRfl
namespace Go.Proofs.Ybulkedgy
/- THE CELL 'sum', in the pinned program and in every row, IS THE sha256 OF THE DUMP (.gsa) THAT YbulkedgyProg.lean LOADS. Nothing in Lean hashes anything: it is a label: what it is worth is what the hold of that sum in a sandbox is worth. -/
noncomputable def Yba.pinned : Pinned := { name := "ybulkedgy", sum := "5b7638f68ebdc32ab8f52a38eff595f181eb86bb090f01519cd21128b2c5603e", checked := Yba.checked }
namespace Rows
def none {H : Type} : Left H := { results := [], args := [] }

/-- 'fanet.LawS6485AWhole': WHATEVER THE INPUT: true; the input reads as it did. -/
def lawS6485AWholeSpec : ChangeSpec := { name := "lawS6485AWhole", fn := fun _ => fun
  | [d1, d2, d3] => { results := [.lit (.bool true)], args := [d1, d2, d3] }
  | _ => none }
def lawS6485AWholeRow : OpenClaim := { program := "ybulkedgy", sum := "5b7638f68ebdc32ab8f52a38eff595f181eb86bb090f01519cd21128b2c5603e", func := "example.com/inflight-packets/inflight-packets/fanet.LawS6485AWhole", spec := "lawS6485AWhole", apart := false }
def LawS6485AWholeSaid : Prop := lawS6485AWholeRow.holds Yba.pinned (OpenSpec.ofChange lawS6485AWholeSpec)

/-- ITS FALSE NEIGHBOUR: 'it returns false'. Refute it at one input. -/
def lawS6485AWholeWrong : ChangeSpec := { name := "lawS6485AWhole", fn := fun _ => fun
  | [d1, d2, d3] => { results := [.lit (.bool false)], args := [d1, d2, d3] }
  | _ => none }
def LawS6485AWholeWrongFalsely : Prop := lawS6485AWholeRow.holds Yba.pinned (OpenSpec.ofChange lawS6485AWholeWrong)

/-- 'odid.LawS6485BWhole': WHATEVER THE INPUT: true; the input reads as it did. -/
def lawS6485BWholeSpec : ChangeSpec := { name := "lawS6485BWhole", fn := fun _ => fun
  | [d1, d2] => { results := [.lit (.bool true)], args := [d1, d2] }
  | _ => none }
def lawS6485BWholeRow : OpenClaim := { program := "ybulkedgy", sum := "5b7638f68ebdc32ab8f52a38eff595f181eb86bb090f01519cd21128b2c5603e", func := "example.com/inflight-packets/inflight-packets/odid.LawS6485BWhole", spec := "lawS6485BWhole", named := ["encoding/binary.LittleEndian"], apart := false }
def LawS6485BWholeSaid : Prop := lawS6485BWholeRow.holds Yba.pinned (OpenSpec.ofChange lawS6485BWholeSpec)

/-- ITS FALSE NEIGHBOUR: 'it returns false'. Refute it at one input. -/
def lawS6485BWholeWrong : ChangeSpec := { name := "lawS6485BWhole", fn := fun _ => fun
  | [d1, d2] => { results := [.lit (.bool false)], args := [d1, d2] }
  | _ => none }
def LawS6485BWholeWrongFalsely : Prop := lawS6485BWholeRow.holds Yba.pinned (OpenSpec.ofChange lawS6485BWholeWrong)

end Rows
end Go.Proofs.Ybulkedgy
