import Derived.Test.YbulkedgyRead
import Derived.Deep.RegionHeld3
import Derived.Deep.MidRow
import Derived.Deep.RegionWith
namespace Go.Proofs.Ybulkedgy
open Go.RowKit

theorem quo_run (n : Int) (w : World) : (binOp .quo 29 (.float .f64 (floatOfInt .f64 n)) (.float .f64 4711630319722168320)).run Yba.prog w = .ok (.float .f64 (degrees n)) w :=
  run_float_arith w .quo 29 .f64 _ _ _ (degrees_bits n)

theorem cell_keep {w w1 : World} {g o : Nat} {v : Value} (b : Below w.heap.size w w1) (h : w.cell? ⟨g, o, none⟩ = some v) : w1.cell? ⟨g, o, none⟩ = some v :=
  (b.cell (by exact World.block_lt_of_cell? w ⟨g, o, none⟩ h)).trans h

attribute [local irreducible] degrees floatOfInt floatBits

theorem frozen_new {w : World} {g o : Nat} (ob : Obj) (hlt : g < w.heap.size) (h : w.frozen? ⟨g, o, none⟩ = false) : (w.alloc ob).frozen? ⟨g, o, none⟩ = false :=
  (((Below.refl w.heap.size w).alloc (Nat.le_refl _) ob).frozen (by exact hlt)).trans h

theorem run_store_float {P : Program} {w : World} {a : Addr} {m : Mode} (k : FloatKind) (b : Nat) : (store a (.float k b) m).run P w = stored P w a (.float k b) m := run_store P w a _ m rfl
attribute [go_sem] run_store_float

/-- The degrees that four bytes spell. -/
def deg4 (a b c d : Int) : Nat := degrees (IntKind.i32.wrap (le4 a b c d))

set_option maxHeartbeats 3200000 in
theorem pos_any (g o : Nat) (x0 x1 x2 x3 x4 x5 x6 x7 : Int) (h0 : IsB x0) (h1 : IsB x1) (h2 : IsB x2) (h3 : IsB x3) (h4 : IsB x4) (h5 : IsB x5) (h6 : IsB x6) (h7 : IsB x7) (w : World)
    (c0 : w.cell? ⟨g, o, none⟩ = some (.int .u8 x0)) (c1 : w.cell? ⟨g, o + 1, none⟩ = some (.int .u8 x1)) (c2 : w.cell? ⟨g, o + 2, none⟩ = some (.int .u8 x2)) (c3 : w.cell? ⟨g, o + 3, none⟩ = some (.int .u8 x3))
    (c4 : w.cell? ⟨g, o + 4, none⟩ = some (.int .u8 x4)) (c5 : w.cell? ⟨g, o + 5, none⟩ = some (.int .u8 x5)) (c6 : w.cell? ⟨g, o + 6, none⟩ = some (.int .u8 x6)) (c7 : w.cell? ⟨g, o + 7, none⟩ = some (.int .u8 x7)) :
    Calls Yba.prog 10 #[.slice (some ⟨g, o, none⟩) 8 23] w fun e w' => e = .returned (.agg #[.float .f64 (deg4 x0 x1 x2 x3), .float .f64 (deg4 x4 x5 x6 x7)]) ∧ Below w.heap.size w w' := by
  have H1 : Hid (∀ w1 : World, Below w.heap.size w w1 → Calls Yba.prog 14 #[.agg #[], .slice (some ⟨g, o, none⟩) 4 23] w1 fun e w' => e = .returned (.int .u32 (le4 x0 x1 x2 x3)) ∧ w' = (w1.alloc (.cells #[] 47)).drewN 1) := fun w1 b =>
    u32_any g o 4 23 x0 x1 x2 x3 h0 h1 h2 h3 w1 (by omega) (cell_keep b c0) (cell_keep b c1) (cell_keep b c2) (cell_keep b c3)
  have b2 : Below w.heap.size w (((w.alloc (.cells #[.float .f64 0, .float .f64 0] 31)).alloc (.cells #[] 47)).drewN 2) := below_drewN (((Below.refl _ _).alloc (Nat.le_refl _) _).alloc (by simp) _) _
  have H2 : Hid (Calls Yba.prog 14 #[.agg #[], .slice (some ⟨g, o + 4, none⟩) 4 19] (((w.alloc (.cells #[.float .f64 0, .float .f64 0] 31)).alloc (.cells #[] 47)).drewN 2) fun e w' => e = .returned (.int .u32 (le4 x4 x5 x6 x7)) ∧ w' = (((w.alloc (.cells #[.float .f64 0, .float .f64 0] 31)).alloc (.cells #[] 47)).alloc (.cells #[] 47)).drewN 3) :=
    u32_any g (o + 4) 4 19 x4 x5 x6 x7 h4 h5 h6 h7 _ (by omega) (cell_keep b2 c4) (cell_keep b2 c5) (cell_keep b2 c6) (cell_keep b2 c7)
  clear b2 c0 c1 c2 c3 c4 c5 c6 c7 h0 h1 h2 h3 h4 h5 h6 h7
  generalize hA : le4 x0 x1 x2 x3 = A at *
  generalize hB : le4 x4 x5 x6 x7 = B at *
  have hq1 := quo_run (IntKind.i32.wrap A)
  have hq2 := quo_run (IntKind.i32.wrap B)
  have u0 : ((((w.alloc (.cells #[.float .f64 0, .float .f64 0] 31)).alloc (.cells #[] 47)).alloc (.cells #[] 47)).drewN 3).cell? ⟨w.heap.size, 0, none⟩ = some (.float .f64 0) := cell_new _ (cell_new _ (by simp))
  have u1 : ((((w.alloc (.cells #[.float .f64 0, .float .f64 0] 31)).alloc (.cells #[] 47)).alloc (.cells #[] 47)).drewN 3).cell? ⟨w.heap.size, 1, none⟩ = some (.float .f64 0) := cell_new _ (cell_new _ (by simp))
  have v0 : ((((w.alloc (.cells #[.float .f64 0, .float .f64 0] 31)).alloc (.cells #[] 47)).alloc (.cells #[] 47)).drewN 3).frozen? ⟨w.heap.size, 0, none⟩ = false := frozen_new _ (by simp; omega) (frozen_new _ (by simp) (by simp))
  have v1 : ((((w.alloc (.cells #[.float .f64 0, .float .f64 0] 31)).alloc (.cells #[] 47)).alloc (.cells #[] 47)).drewN 3).frozen? ⟨w.heap.size, 1, none⟩ = false := frozen_new _ (by simp; omega) (frozen_new _ (by simp) (by simp))
  have HB : Hid (Below w.heap.size w ((((w.alloc (.cells #[.float .f64 0, .float .f64 0] 31)).alloc (.cells #[] 47)).alloc (.cells #[] 47)).drewN 3)) := below_drewN ((((Below.refl _ _).alloc (Nat.le_refl _) _).alloc (by simp) _).alloc (by simp; omega) _) _
  generalize (((w.alloc (.cells #[.float .f64 0, .float .f64 0] 31)).alloc (.cells #[] 47)).alloc (.cells #[] 47)).drewN 3 = W at *
  have HE : Hid (∀ a b, ((W.setCell ⟨w.heap.size, 0, none⟩ a).setCell ⟨w.heap.size, 1, none⟩ b).cell? ⟨w.heap.size, 0, none⟩ = some a ∧ ((W.setCell ⟨w.heap.size, 0, none⟩ a).setCell ⟨w.heap.size, 1, none⟩ b).cell? ⟨w.heap.size, 1, none⟩ = some b) := fun a b => by
    refine ⟨?_, ?_⟩
    · rw [World.cell?_setCell_other _ _ _ _ (by simp), World.cell?_setCell_same _ _ _ u0]
    · exact World.cell?_setCell_same _ _ _ ((World.cell?_setCell_other _ _ _ _ (by simp)).trans u1)
  go_enter Yba.func10, Yba.ntmps10
  go_wp2_with fail
  go_region_held3 (fun _ => True) (trivial)
    (first | (go_at_call 14; with_reducible refine (H1.out _ ?_).mono ?_; exact (Below.drew ((Below.refl _ _).alloc (Nat.le_refl _) _)); rintro e w' ⟨rfl, rfl⟩; dsimp only) | (go_at_call 14; with_reducible refine H2.out.mono ?_; rintro e w' ⟨rfl, rfl⟩; dsimp only))
  go_wp2
  obtain ⟨r0, r1⟩ := HE.out (.float .f64 (degrees (IntKind.i32.wrap A))) (.float .f64 (degrees (IntKind.i32.wrap B)))
  exact bodyPost_ret (v := .agg #[.float .f64 (degrees (IntKind.i32.wrap A)), .float .f64 (degrees (IntKind.i32.wrap B))]) (by simp [results, Yba.results10, go_sem, r0, r1]) rfl ⟨by rw [← hA, ← hB]; rfl, (HB.out.setCell (Nat.le_refl _) _).setCell (Nat.le_refl _) _⟩
end Go.Proofs.Ybulkedgy
