import Derived.Test.YbulkedccProg
import Derived.WalkKit
namespace Go.Proofs.Ybulkedcc
open Go.RowKit

set_option maxHeartbeats 1000000 in
/-- A piece: some string of at most three bytes; the world stands. -/
theorem piece_any (p : Int) (h0 : 0 ≤ p) (h1 : p < 256) (w : World) :
    Calls Yba.prog 5 #[.int .u8 p] w fun e w' => (∃ s : ByteArray, s.size ≤ 3 ∧ e = .returned (.string s)) ∧ w' = w := by
  go_enter Yba.func5, Yba.ntmps5
  go_wp2
  all_goals go_ret
  all_goals exact ⟨⟨_, by decide, rfl⟩, rfl⟩
end Go.Proofs.Ybulkedcc
