/-
  NARROWER THAN 'FOR EVERY INPUT', by the rows' own cells (each row's printed sentence says how): LawS6477CWhole: laid.
  DERIVED. THE GIVEN ROWS OF THIS SEAT. 1 by the template 'for every input the law returns true; each argument reads behind the call as it read before'; 0 by the template 'total and deterministic' (their statements: YbulkedcqDoorTotals.lean).
  GIVEN WITH THE SEED: the statements are not yours to turn. If you find one false, say at which input.
  Laid BY PROGRAM, IN A SANDBOX (cutbox-rows.mjs): the forced cells as the released guide's own fill.sh prints them over the translation 27c133f8cd5b7369… (all of the seat's roots in one cut). By AI agents, Wed Nov 11 2026. No macro, syntax, notation, axiom, sorry.
-/
import Derived.Test.YbulkedcqDoorChecked
import GoSem.Claim
import GoSem.ClaimJoined
import GoSem.ClaimMapViews
import Derived.JoinedTies
import Derived.KernelRfl
namespace Go.Proofs.YbulkedcqDoor
/- THE CELL 'sum', in the pinned program and in every row, IS THE sha256 OF THE DUMP (.gsa) THAT YbulkedcqDoorProg.lean LOADS. Nothing in Lean hashes anything: it is a label: what it is worth is what the hold of that sum in a sandbox is worth. -/
noncomputable def Ybad.pinned : Pinned := { name := "ybulkedcqdoor", sum := "27c133f8cd5b73691a3eaaac69e333cbcbdd5eeaa3fc770a8b973c4f2a35d54e", checked := Ybad.checked }
namespace Rows
def none {H : Type} : Left H := { results := [], args := [] }

/- WHAT THE LISTED PACKAGE-LEVEL VARIABLES READ AS WHEN THE CALL BEGINS. Each datum BY PROGRAM (the guide's laid-datum.mjs) off the statement by which the dump's own 'gosem.cut.vars' lays the variable. In a bare row this is a premise. The card (YbulkedcqDoorCards.lean) ties it to the program's text. -/
def laid_net_netip_z6noz {H : Type} : DataW H := .agg [.ptr (.agg [.lit (.bool true), .lit (.string [])])]
def laid_example_com_ferryman_ferryman_internal_proxy_linkLocal64 {H : Type} : DataW H := .agg [.lit (.int .u8 254), .lit (.int .u8 128), .lit (.int .u8 0), .lit (.int .u8 0), .lit (.int .u8 0), .lit (.int .u8 0), .lit (.int .u8 0), .lit (.int .u8 0)]

/-- 'proxy.LawS6477CWhole': WHATEVER THE INPUT: true; the input reads as it did. -/
def lawS6477CWholeSpec : ChangeSpec := { name := "lawS6477CWhole", vars := ["example.com/ferryman/ferryman/internal/proxy.linkLocal64"], fn := fun _ => fun
  | [d1, d2, d3, d4, d5, d6, d7, d8, g1] => { results := [.lit (.bool true)], args := [d1, d2, d3, d4, d5, d6, d7, d8], vars := [g1] }
  | _ => none }
def lawS6477CWholeRow : OpenClaim := { program := "ybulkedcqdoor", sum := "27c133f8cd5b73691a3eaaac69e333cbcbdd5eeaa3fc770a8b973c4f2a35d54e", func := "example.com/ferryman/ferryman/internal/proxy.LawS6477CWhole", spec := "lawS6477CWhole", inPlace := ["sync/atomic.StorePointer", "sync/atomic.LoadPointer"], unfollowed := true, recurses := true, named := ["net/netip.z6noz", "example.com/ferryman/ferryman/internal/proxy.linkLocal64", "encoding/binary.BigEndian"], apart := false, laid := [("net/netip.z6noz", laid_net_netip_z6noz), ("example.com/ferryman/ferryman/internal/proxy.linkLocal64", laid_example_com_ferryman_ferryman_internal_proxy_linkLocal64)] }
def LawS6477CWholeSaid : Prop := lawS6477CWholeRow.holds Ybad.pinned (OpenSpec.ofChange lawS6477CWholeSpec)

/-- ITS FALSE NEIGHBOUR: 'it returns false'. Refute it at one input. -/
def lawS6477CWholeWrong : ChangeSpec := { name := "lawS6477CWhole", vars := ["example.com/ferryman/ferryman/internal/proxy.linkLocal64"], fn := fun _ => fun
  | [d1, d2, d3, d4, d5, d6, d7, d8, g1] => { results := [.lit (.bool false)], args := [d1, d2, d3, d4, d5, d6, d7, d8], vars := [g1] }
  | _ => none }
def LawS6477CWholeWrongFalsely : Prop := lawS6477CWholeRow.holds Ybad.pinned (OpenSpec.ofChange lawS6477CWholeWrong)

end Rows
end Go.Proofs.YbulkedcqDoor
