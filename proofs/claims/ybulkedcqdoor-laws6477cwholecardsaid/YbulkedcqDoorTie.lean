/-
  DERIVED. GIVEN WITH THE SEED: THE PROGRAM's TIES (one call each: nine closed facts by the kernel) AND EACH ROW's TIE, after the 31st guide's Derived/Test/Toyas{Tie, Card}.lean. No idea stands in it: it is a product of the set-up. Laid BY PROGRAM, IN A SANDBOX (cutbox-door.mjs). By AI agents, Wed Nov 11 2026. No macro, syntax, notation, axiom, sorry.
-/
import Derived.Test.YbulkedcqDoorRows
import Derived.LaidByTextLater
import Derived.SevenTiedAt
import Derived.LaidSub
import Derived.LaidOnce
namespace Go.Proofs.YbulkedcqDoor
open Go
set_option maxRecDepth 100000
theorem seatTie1 : Ybad.prog.laidByTextLater [("net/netip.z6noz", Rows.laid_net_netip_z6noz), ("example.com/ferryman/ferryman/internal/proxy.linkLocal64", Rows.laid_example_com_ferryman_ferryman_internal_proxy_linkLocal64)] [.called, .widerDeep] true :=
  Program.laidByTextLater_by_one 20 8 9 (by kernel_rfl) (by kernel_rfl) (by kernel_rfl) (by kernel_rfl) (by kernel_rfl) (by kernel_rfl) (fun _ _ => by kernel_rfl)
theorem noOwnUnsafe : Ybad.pinned.checked.prog.headLifts.contains "ownunsafe" = false := by kernel_rfl
theorem tie : Ybad.prog.laidByTextLater [("net/netip.z6noz", Rows.laid_net_netip_z6noz), ("example.com/ferryman/ferryman/internal/proxy.linkLocal64", Rows.laid_example_com_ferryman_ferryman_internal_proxy_linkLocal64)] [.called, .widerDeep] true :=
  Program.laidByTextLater.sub seatTie1 ["net/netip.z6noz", "example.com/ferryman/ferryman/internal/proxy.linkLocal64"] (by kernel_rfl) (by kernel_rfl)
theorem lawS6477CWhole_row_tie : Rows.lawS6477CWholeRow.laidByTextAt .later Ybad.pinned [.called, .widerDeep] true :=
  OpenClaim.laidByTextAt_later rfl rfl tie noOwnUnsafe
end Go.Proofs.YbulkedcqDoor
