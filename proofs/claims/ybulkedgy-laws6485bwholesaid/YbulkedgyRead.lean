import Derived.Test.YbulkedgyProg
import Derived.Test.YbulkedgyFloat
import Derived.WalkKit
import Derived.WalkSpells
import Derived.Below
import Derived.Lib.EndianBits
import Derived.RegionTactic
import Derived.Deep.Draws
import Derived.Deep.QuietTactic
import Derived.BigQuiet
namespace Go.Proofs.Ybulkedgy
open Go.RowKit

def IsB (x : Int) : Prop := 0 ≤ x ∧ x < 256
def le2 (a b : Int) : Int := a + b * 256
def le4 (a b c d : Int) : Int := a + b * 256 + c * 65536 + d * 16777216

theorem below_drewN {B : Nat} {w w' : World} (h : Below B w w') (q : Nat) : Below B w (w'.drewN q) := ⟨h.os, h.tape, h.output, h.size, h.block⟩

theorem cell_new {w : World} {g o : Nat} {v : Value} (ob : Obj) (h : w.cell? ⟨g, o, none⟩ = some v) : (w.alloc ob).cell? ⟨g, o, none⟩ = some v := by
  have hlt : g < w.heap.size := World.block_lt_of_cell? w ⟨g, o, none⟩ h
  exact (((Below.refl w.heap.size w).alloc (Nat.le_refl _) ob).cell (by exact hlt)).trans h

theorem ret_u16 {a b : Int} (h : a = b) : Ending.returned (.int .u16 a) = .returned (.int .u16 b) := by rw [h]
theorem ret_u32 {a b : Int} (h : a = b) : Ending.returned (.int .u32 a) = .returned (.int .u32 b) := by rw [h]

theorem or16 {a b : Int} (ha : IsB a) (hb : IsB b) : bits .or .u16 a (b * 256) = le2 a b := by
  obtain ⟨a0, a1⟩ := ha
  obtain ⟨b0, b1⟩ := hb
  simp (disch := omega) only [u16_or8]
  rfl
theorem or32 {a b c d : Int} (ha : IsB a) (hb : IsB b) (hc : IsB c) (hd : IsB d) : bits .or .u32 (bits .or .u32 (bits .or .u32 a (b * 256)) (c * 65536)) (d * 16777216) = le4 a b c d := by
  obtain ⟨a0, a1⟩ := ha
  obtain ⟨b0, b1⟩ := hb
  obtain ⟨c0, c1⟩ := hc
  obtain ⟨d0, d1⟩ := hd
  simp (disch := omega) only [u32_or8, u32_or16, u32_or24]
  rfl

theorem le16_any (a b : Int) (ha : IsB a) (hb : IsB b) (w : World) : Calls Yba.prog 9 #[.int .u8 a, .int .u8 b] w fun e w' => e = .returned (.int .u16 (le2 a b)) ∧ w' = w := by
  have HO : Hid (bits .or .u16 a (b * 256) = le2 a b) := or16 ha hb
  obtain ⟨a0, a1⟩ := ha
  obtain ⟨b0, b1⟩ := hb
  go_enter Yba.func9, Yba.ntmps9
  go_wp2
  go_ret
  exact ⟨ret_u16 HO.out, rfl⟩

theorem le32_any (a b c d : Int) (ha : IsB a) (hb : IsB b) (hc : IsB c) (hd : IsB d) (w : World) : Calls Yba.prog 8 #[.int .u8 a, .int .u8 b, .int .u8 c, .int .u8 d] w fun e w' => e = .returned (.int .u32 (le4 a b c d)) ∧ w' = w := by
  have HO : Hid (bits .or .u32 (bits .or .u32 (bits .or .u32 a (b * 256)) (c * 65536)) (d * 16777216) = le4 a b c d) := or32 ha hb hc hd
  obtain ⟨a0, a1⟩ := ha
  obtain ⟨b0, b1⟩ := hb
  obtain ⟨c0, c1⟩ := hc
  obtain ⟨d0, d1⟩ := hd
  go_enter Yba.func8, Yba.ntmps8
  go_wp2
  go_ret
  exact ⟨ret_u32 HO.out, rfl⟩

set_option maxHeartbeats 1600000 in
theorem u16_any (g o n c : Nat) (x0 x1 : Int) (h0 : IsB x0) (h1 : IsB x1) (w : World) (hn : 2 ≤ n) (c0 : w.cell? ⟨g, o, none⟩ = some (.int .u8 x0)) (c1 : w.cell? ⟨g, o + 1, none⟩ = some (.int .u8 x1)) :
    Calls Yba.prog 12 #[.agg #[], .slice (some ⟨g, o, none⟩) n c] w fun e w' => e = .returned (.int .u16 (le2 x0 x1)) ∧ w' = (w.alloc (.cells #[] 47)).drewN 1 := by
  have HO : Hid (bits .or .u16 x0 (x1 * 256) = le2 x0 x1) := or16 h0 h1
  have e0 : (w.alloc (.cells #[] 47)).cell? ⟨g, o, none⟩ = some (.int .u8 x0) := cell_new _ c0
  have e1 : (w.alloc (.cells #[] 47)).cell? ⟨g, o + 1, none⟩ = some (.int .u8 x1) := cell_new _ c1
  obtain ⟨a0, a1⟩ := h0
  obtain ⟨b0, b1⟩ := h1
  clear c0 c1
  go_enter Yba.func12, Yba.ntmps12
  go_wp2
  go_region
  go_wp2
  go_ret
  exact ⟨ret_u16 HO.out, rfl⟩

set_option maxHeartbeats 1600000 in
theorem u32_any (g o n c : Nat) (x0 x1 x2 x3 : Int) (h0 : IsB x0) (h1 : IsB x1) (h2 : IsB x2) (h3 : IsB x3) (w : World) (hn : 4 ≤ n) (c0 : w.cell? ⟨g, o, none⟩ = some (.int .u8 x0)) (c1 : w.cell? ⟨g, o + 1, none⟩ = some (.int .u8 x1)) (c2 : w.cell? ⟨g, o + 2, none⟩ = some (.int .u8 x2)) (c3 : w.cell? ⟨g, o + 3, none⟩ = some (.int .u8 x3)) :
    Calls Yba.prog 14 #[.agg #[], .slice (some ⟨g, o, none⟩) n c] w fun e w' => e = .returned (.int .u32 (le4 x0 x1 x2 x3)) ∧ w' = (w.alloc (.cells #[] 47)).drewN 1 := by
  have HO : Hid (bits .or .u32 (bits .or .u32 (bits .or .u32 x0 (x1 * 256)) (x2 * 65536)) (x3 * 16777216) = le4 x0 x1 x2 x3) := or32 h0 h1 h2 h3
  have e0 : (w.alloc (.cells #[] 47)).cell? ⟨g, o, none⟩ = some (.int .u8 x0) := cell_new _ c0
  have e1 : (w.alloc (.cells #[] 47)).cell? ⟨g, o + 1, none⟩ = some (.int .u8 x1) := cell_new _ c1
  have e2 : (w.alloc (.cells #[] 47)).cell? ⟨g, o + 2, none⟩ = some (.int .u8 x2) := cell_new _ c2
  have e3 : (w.alloc (.cells #[] 47)).cell? ⟨g, o + 3, none⟩ = some (.int .u8 x3) := cell_new _ c3
  obtain ⟨a0, a1⟩ := h0
  obtain ⟨b0, b1⟩ := h1
  obtain ⟨d0, d1⟩ := h2
  obtain ⟨f0, f1⟩ := h3
  clear c0 c1 c2 c3
  go_enter Yba.func14, Yba.ntmps14
  go_wp2
  go_region
  go_wp2
  go_ret
  exact ⟨ret_u32 HO.out, rfl⟩

theorem alt_any (g o n c : Nat) (x0 x1 : Int) (h0 : IsB x0) (h1 : IsB x1) (w : World) (hn : 2 ≤ n) (c0 : w.cell? ⟨g, o, none⟩ = some (.int .u8 x0)) (c1 : w.cell? ⟨g, o + 1, none⟩ = some (.int .u8 x1)) :
    Calls Yba.prog 11 #[.slice (some ⟨g, o, none⟩) n c] w fun e w' => e = .returned (.int .u16 (le2 x0 x1)) ∧ w' = (w.alloc (.cells #[] 47)).drewN 1 := by
  go_enter Yba.func11, Yba.ntmps11
  go_wp2_with (go_at_call 12; refine (u16_any g o n c x0 x1 h0 h1 w hn c0 c1).mono ?_; rintro e w' ⟨rfl, rfl⟩)
  go_ret
  exact ⟨rfl, rfl⟩

theorem ts_any (g o n c : Nat) (x0 x1 x2 x3 : Int) (h0 : IsB x0) (h1 : IsB x1) (h2 : IsB x2) (h3 : IsB x3) (w : World) (hn : 4 ≤ n) (c0 : w.cell? ⟨g, o, none⟩ = some (.int .u8 x0)) (c1 : w.cell? ⟨g, o + 1, none⟩ = some (.int .u8 x1)) (c2 : w.cell? ⟨g, o + 2, none⟩ = some (.int .u8 x2)) (c3 : w.cell? ⟨g, o + 3, none⟩ = some (.int .u8 x3)) :
    Calls Yba.prog 13 #[.slice (some ⟨g, o, none⟩) n c] w fun e w' => e = .returned (.int .u32 (le4 x0 x1 x2 x3)) ∧ w' = (w.alloc (.cells #[] 47)).drewN 1 := by
  go_enter Yba.func13, Yba.ntmps13
  go_wp2_with (go_at_call 14; refine (u32_any g o n c x0 x1 x2 x3 h0 h1 h2 h3 w hn c0 c1 c2 c3).mono ?_; rintro e w' ⟨rfl, rfl⟩)
  go_ret
  exact ⟨rfl, rfl⟩
end Go.Proofs.Ybulkedgy
