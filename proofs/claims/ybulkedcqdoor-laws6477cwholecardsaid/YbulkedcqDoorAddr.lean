import Derived.Test.YbulkedcqDoorBytes
import Derived.Deep.RegionHeld3
import Derived.Deep.DrawnRows
namespace Go.Proofs.YbulkedcqDoor
open Go.RowKit
attribute [local go_sem ↓] Go.wp_at_zero Go.wp_at_succ

theorem below_drewN {B : Nat} {w w' : World} (h : Below B w w') (q : Nat) : Below B w (w'.drewN q) := ⟨h.os, h.tape, h.output, h.size, h.block⟩

/-- Block 'g' holds these bytes from its head on. -/
def Row (w : World) (g : Nat) (xs : List Int) : Prop := ∀ i, i < xs.length → w.cell? ⟨g, i, none⟩ = some (.int .u8 (xs.getD i 0))
def AllB (xs : List Int) : Prop := ∀ i, IsB (xs.getD i 0)

theorem be64_list (xs : List Int) (g o c : Nat) (w : World) (hx : AllB xs) (ho : o + 8 ≤ xs.length) (hc : Row w g xs) :
    Calls Ybad.prog 10 #[.slice (some ⟨g, o, none⟩) 8 c] w fun e w' => e = .returned (.int .u64 (be8 (xs.getD o 0) (xs.getD (o + 1) 0) (xs.getD (o + 2) 0) (xs.getD (o + 3) 0) (xs.getD (o + 4) 0) (xs.getD (o + 5) 0) (xs.getD (o + 6) 0) (xs.getD (o + 7) 0))) ∧ ∃ q, w' = w.drewN q :=
  be64_any g o c _ _ _ _ _ _ _ _ w (hx _) (hx _) (hx _) (hx _) (hx _) (hx _) (hx _) (hx _) (hc _ (by omega)) (hc _ (by omega)) (hc _ (by omega)) (hc _ (by omega)) (hc _ (by omega)) (hc _ (by omega)) (hc _ (by omega)) (hc _ (by omega))

theorem allB16 {x0 x1 x2 x3 x4 x5 x6 x7 x8 x9 x10 x11 x12 x13 x14 x15 : Int} (h0 : IsB x0) (h1 : IsB x1) (h2 : IsB x2) (h3 : IsB x3) (h4 : IsB x4) (h5 : IsB x5) (h6 : IsB x6) (h7 : IsB x7) (h8 : IsB x8) (h9 : IsB x9) (h10 : IsB x10) (h11 : IsB x11) (h12 : IsB x12) (h13 : IsB x13) (h14 : IsB x14) (h15 : IsB x15) : AllB [x0, x1, x2, x3, x4, x5, x6, x7, x8, x9, x10, x11, x12, x13, x14, x15] := by
  intro i
  match i with
  | 0 => exact h0
  | 1 => exact h1
  | 2 => exact h2
  | 3 => exact h3
  | 4 => exact h4
  | 5 => exact h5
  | 6 => exact h6
  | 7 => exact h7
  | 8 => exact h8
  | 9 => exact h9
  | 10 => exact h10
  | 11 => exact h11
  | 12 => exact h12
  | 13 => exact h13
  | 14 => exact h14
  | 15 => exact h15
  | _ + 16 => exact ⟨by simp, by simp⟩

set_option maxHeartbeats 8000000 in
set_option maxRecDepth 100000 in
theorem from16_any (x0 x1 x2 x3 x4 x5 x6 x7 x8 x9 x10 x11 x12 x13 x14 x15 : Int) (z : Option Addr) (w : World) (h0 : IsB x0) (h1 : IsB x1) (h2 : IsB x2) (h3 : IsB x3) (h4 : IsB x4) (h5 : IsB x5) (h6 : IsB x6) (h7 : IsB x7) (h8 : IsB x8) (h9 : IsB x9) (h10 : IsB x10) (h11 : IsB x11) (h12 : IsB x12) (h13 : IsB x13) (h14 : IsB x14) (h15 : IsB x15) (hz : w.cell? ⟨0, 0, none⟩ = some (.pointer z)) (hw : 2 ≤ w.heap.size) :
    Calls Ybad.prog 6 #[.agg #[.int .u8 x0, .int .u8 x1, .int .u8 x2, .int .u8 x3, .int .u8 x4, .int .u8 x5, .int .u8 x6, .int .u8 x7, .int .u8 x8, .int .u8 x9, .int .u8 x10, .int .u8 x11, .int .u8 x12, .int .u8 x13, .int .u8 x14, .int .u8 x15]] w fun e w' => e = .returned (.agg #[.int .u64 (be8 x0 x1 x2 x3 x4 x5 x6 x7), .int .u64 (be8 x8 x9 x10 x11 x12 x13 x14 x15), .pointer z]) ∧ Below w.heap.size w w' := by
  have hs1 : Row ((w.alloc (.cells #[.int .u8 x0, .int .u8 x1, .int .u8 x2, .int .u8 x3, .int .u8 x4, .int .u8 x5, .int .u8 x6, .int .u8 x7, .int .u8 x8, .int .u8 x9, .int .u8 x10, .int .u8 x11, .int .u8 x12, .int .u8 x13, .int .u8 x14, .int .u8 x15] 22)).alloc (.cells #[.int .u64 0, .int .u64 0, .pointer none] 49)) w.heap.size [x0, x1, x2, x3, x4, x5, x6, x7, x8, x9, x10, x11, x12, x13, x14, x15] := by
    intro i hi
    rw [World.cell?_alloc_past _ _ _ (by simp), World.cell?_alloc_at _ _ _ _ rfl]
    have hi' : i < 16 := hi
    clear hi
    match i, hi' with
    | 0, _ | 1, _ | 2, _ | 3, _ | 4, _ | 5, _ | 6, _ | 7, _ | 8, _ | 9, _ | 10, _ | 11, _ | 12, _ | 13, _ | 14, _ | 15, _ => rfl
    | _ + 16, h => omega
  have hb := allB16 h0 h1 h2 h3 h4 h5 h6 h7 h8 h9 h10 h11 h12 h13 h14 h15
  have hz0 : ((w.alloc (.cells #[.int .u8 x0, .int .u8 x1, .int .u8 x2, .int .u8 x3, .int .u8 x4, .int .u8 x5, .int .u8 x6, .int .u8 x7, .int .u8 x8, .int .u8 x9, .int .u8 x10, .int .u8 x11, .int .u8 x12, .int .u8 x13, .int .u8 x14, .int .u8 x15] 22)).alloc (.cells #[.int .u64 0, .int .u64 0, .pointer none] 49)).cell? ⟨0, 0, none⟩ = some (.pointer z) := by
    rw [World.cell?_alloc_past _ _ _ (by simp), World.cell?_alloc_past _ _ _ (by omega)]; exact hz
  have sd : ∀ (W : World) (j : Nat) (x : Addr) (v : Value), (W.drewN j).setCell x v = (W.setCell x v).drewN j := fun _ _ _ _ => rfl
  go_enter Ybad.func6, Ybad.ntmps6
  go_wp2
  go_region_held3 (fun w' => w'.cell? ⟨0, 0, none⟩ = some (.pointer z)) (go_keep)
    (first | (go_at_call 10; refine (be64_list [x0, x1, x2, x3, x4, x5, x6, x7, x8, x9, x10, x11, x12, x13, x14, x15] _ _ _ _ hb ?_ ?_).mono ?_; exact Nat.le_of_ble_eq_true rfl; exact hs1; rintro e w' ⟨rfl, q, rfl⟩))
  all_goals go_wp2
  exact bodyPost_ret (v := .agg #[.int .u64 (be8 x0 x1 x2 x3 x4 x5 x6 x7), .int .u64 (be8 x8 x9 x10 x11 x12 x13 x14 x15), .pointer z]) (by simp [results, Ybad.results6, go_sem]) rfl ⟨rfl, below_drewN (((Below.refl _ _).alloc (Nat.le_refl _) _).alloc (by simp) _) _⟩
end Go.Proofs.YbulkedcqDoor
