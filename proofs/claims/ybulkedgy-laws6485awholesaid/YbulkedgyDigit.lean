import Derived.Test.YbulkedgyProg
import Derived.WalkKit
import Derived.WalkSpells
import Derived.Below
namespace Go.Proofs.Ybulkedgy
open Go.RowKit

/-- The upper-case hex sign of a number below sixteen. -/
def sign (d : Int) : Int := if d < 10 then 48 + d else 55 + d

theorem ret_u8 {a b : Int} (h : a = b) : Ending.returned (.int .u8 a) = .returned (.int .u8 b) := by rw [h]

theorem digit_any (d : Int) (h0 : 0 ≤ d) (h1 : d < 16) (w : World) : Calls Yba.prog 6 #[.int .u32 d] w fun e w' => e = .returned (.int .u8 (sign d)) ∧ w' = w := by
  by_cases h : d < 10
  · go_enter Yba.func6, Yba.ntmps6
    go_wp2
    go_ret
    exact ⟨ret_u8 (by unfold sign; rw [if_pos h]), rfl⟩
  · go_enter Yba.func6, Yba.ntmps6
    go_wp2
    go_ret
    exact ⟨ret_u8 (by unfold sign; rw [if_neg (by omega)]; omega), rfl⟩

/-- Nibble number p of v. -/
def nib (v : Int) (p : Nat) : Int := v / 2 ^ (4 * p) % 16

end Go.Proofs.Ybulkedgy
