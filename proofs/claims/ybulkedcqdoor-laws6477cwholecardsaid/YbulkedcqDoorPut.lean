import Derived.Test.YbulkedcqDoorEnc
import Derived.Test.YbulkedcqDoorAs
import Derived.Test.YbulkedcqDoorAtomic
import Derived.Test.YbulkedcqDoorEq
namespace Go.Proofs.YbulkedcqDoor
open Go.RowKit

theorem put16_any (g o c : Nat) (p : Int) (h0 : 0 ≤ p) (h1 : p < 65536) (y0 y1 : Value) (w : World) (c0 : w.cell? ⟨g, o, none⟩ = some y0) (c1 : w.cell? ⟨g, o + 1, none⟩ = some y1) (f0 : w.frozen? ⟨g, o, none⟩ = false) (f1 : w.frozen? ⟨g, o + 1, none⟩ = false) :
    Calls Ybad.prog 13 #[.agg #[], .slice (some ⟨g, o, none⟩) 2 c, .int .u16 p] w fun e w' => e = .returned (.tuple #[]) ∧ w' = ((w.setCell ⟨g, o, none⟩ (.int .u8 (p / 256))).setCell ⟨g, o + 1, none⟩ (.int .u8 (p % 256))).alloc (.cells #[] 67) := by
  have hg : g < w.heap.size := World.block_lt_of_cell? w ⟨g, o, none⟩ c0
  have b : Below w.heap.size w (w.alloc (.cells #[] 67)) := (Below.refl _ _).alloc (Nat.le_refl _) _
  have d0 := (b.cell (p := ⟨g, o, none⟩) hg).trans c0
  have d1 := (b.cell (p := ⟨g, o + 1, none⟩) hg).trans c1
  have e0 := (b.frozen (p := ⟨g, o, none⟩) hg).trans f0
  have e1 := (b.frozen (p := ⟨g, o + 1, none⟩) hg).trans f1
  clear b
  go_enter Ybad.func13, Ybad.ntmps13
  go_wp2
  go_end0
  exact ⟨rfl, rfl⟩
end Go.Proofs.YbulkedcqDoor
