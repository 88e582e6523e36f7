import Derived.Test.YbulkedccProg
import Derived.Test.YbulkedccPlain
import Derived.WalkKit
namespace Go.Proofs.Ybulkedcc
open Go.RowKit Plain

def bstr (l : List UInt8) : ByteArray := ⟨l.toArray⟩

set_option maxHeartbeats 1000000 in
theorem bounds_any (w : World) :
    Calls Yba.prog 11 #[] w fun e w' => e = .returned (.slice (some ⟨w.heap.size, 0, none⟩) 11 11) ∧ w' = w.alloc (.cells (bnds.map fun l => Value.string (bstr l)).toArray 9) := by
  go_enter Yba.func11, Yba.ntmps11
  go_wp2
  go_ret
  exact ⟨rfl, rfl⟩

theorem bounds_cell (w : World) (k : Nat) (hk : k < 11) : (w.alloc (.cells (bnds.map fun l => Value.string (bstr l)).toArray 9)).cell? ⟨w.heap.size, k, none⟩ = some (.string (bstr (bnds.getD k []))) := by
  match k, hk with
  | 0, _ | 1, _ | 2, _ | 3, _ | 4, _ | 5, _ | 6, _ | 7, _ | 8, _ | 9, _ | 10, _ => simp [bnds]
end Go.Proofs.Ybulkedcc
