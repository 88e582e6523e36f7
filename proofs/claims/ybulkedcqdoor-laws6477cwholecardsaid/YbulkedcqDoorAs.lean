import Derived.Test.YbulkedcqDoorAddr
namespace Go.Proofs.YbulkedcqDoor
open Go.RowKit
attribute [local go_sem ↓] Go.wp_at_zero Go.wp_at_succ

theorem portFrom_any (hi lo p : Int) (z : Option Addr) (w : World) :
    Calls Ybad.prog 5 #[.agg #[.int .u64 hi, .int .u64 lo, .pointer z], .int .u16 p] w fun e w' => e = .returned (.agg #[.int .u64 hi, .int .u64 lo, .pointer z, .int .u16 p]) ∧ Below w.heap.size w w' := by
  go_enter Ybad.func5, Ybad.ntmps5
  go_wp2
  exact bodyPost_ret (v := .agg #[.int .u64 hi, .int .u64 lo, .pointer z, .int .u16 p]) (by simp [results, Ybad.results5, go_sem]) rfl ⟨rfl, ((Below.refl _ _).alloc (Nat.le_refl _) _).alloc (by simp) _⟩

theorem addr_any (hi lo p : Int) (z : Option Addr) (w : World) :
    Calls Ybad.prog 11 #[.agg #[.int .u64 hi, .int .u64 lo, .pointer z, .int .u16 p]] w fun e w' => e = .returned (.agg #[.int .u64 hi, .int .u64 lo, .pointer z]) ∧ Below w.heap.size w w' := by
  go_enter Ybad.func11, Ybad.ntmps11
  go_wp2
  exact bodyPost_ret (v := .agg #[.int .u64 hi, .int .u64 lo, .pointer z]) (by simp [results, Ybad.results11, go_sem]) rfl ⟨rfl, ((Below.refl _ _).alloc (Nat.le_refl _) _).alloc (by simp) _⟩

theorem port_any (hi lo p : Int) (z : Option Addr) (w : World) :
    Calls Ybad.prog 14 #[.agg #[.int .u64 hi, .int .u64 lo, .pointer z, .int .u16 p]] w fun e w' => e = .returned (.int .u16 p) ∧ w' = w.alloc (.cells #[.int .u64 hi, .int .u64 lo, .pointer z, .int .u16 p] 51) := by
  go_enter Ybad.func14, Ybad.ntmps14
  go_wp2
  go_ret
  exact ⟨rfl, rfl⟩


set_option maxRecDepth 100000 in
theorem put64_new0 (W : World) (g : Nat) (hg : g = W.heap.size) (c0 c1 c2 c3 c4 c5 c6 c7 c8 c9 c10 c11 c12 c13 c14 c15 : Value) (v : Int) (hv0 : 0 ≤ v) (hv1 : v < 18446744073709551616) (x0 x1 x2 x3 x4 x5 x6 x7 : Int) (e0 : v / 72057594037927936 = x0) (e1 : v / 281474976710656 % 256 = x1) (e2 : v / 1099511627776 % 256 = x2) (e3 : v / 4294967296 % 256 = x3) (e4 : v / 16777216 % 256 = x4) (e5 : v / 65536 % 256 = x5) (e6 : v / 256 % 256 = x6) (e7 : v % 256 = x7) (q : Nat) :
    Calls Ybad.prog 16 #[.slice (some ⟨g, 0, none⟩) 8 16, .int .u64 v] ((W.alloc (.cells #[c0, c1, c2, c3, c4, c5, c6, c7, c8, c9, c10, c11, c12, c13, c14, c15] 22)).drewN q) fun e w' => e = .returned (.tuple #[]) ∧ w' = (W.alloc (.cells #[.int .u8 x0, .int .u8 x1, .int .u8 x2, .int .u8 x3, .int .u8 x4, .int .u8 x5, .int .u8 x6, .int .u8 x7, c8, c9, c10, c11, c12, c13, c14, c15] 22)).drewN q := by
  subst hg
  refine (put64_any W.heap.size 0 16 v hv0 hv1 c0 c1 c2 c3 c4 c5 c6 c7 _ (by simp) (by simp) (by simp) (by simp) (by simp) (by simp) (by simp) (by simp) (by simp) (by simp) (by simp) (by simp) (by simp) (by simp) (by simp) (by simp)).mono ?_
  rintro e w' ⟨rfl, rfl⟩
  refine ⟨rfl, ?_⟩
  rw [e0, e1, e2, e3, e4, e5, e6, e7]
  have sd : ∀ (W : World) (j : Nat) (x : Addr) (v : Value), (W.drewN j).setCell x v = (W.setCell x v).drewN j := fun _ _ _ _ => rfl
  simp [World.setCells, sd, World.setCell_alloc_at]

set_option maxRecDepth 100000 in
theorem put64_new8 (W : World) (g : Nat) (hg : g = W.heap.size) (c0 c1 c2 c3 c4 c5 c6 c7 c8 c9 c10 c11 c12 c13 c14 c15 : Value) (v : Int) (hv0 : 0 ≤ v) (hv1 : v < 18446744073709551616) (x0 x1 x2 x3 x4 x5 x6 x7 : Int) (e0 : v / 72057594037927936 = x0) (e1 : v / 281474976710656 % 256 = x1) (e2 : v / 1099511627776 % 256 = x2) (e3 : v / 4294967296 % 256 = x3) (e4 : v / 16777216 % 256 = x4) (e5 : v / 65536 % 256 = x5) (e6 : v / 256 % 256 = x6) (e7 : v % 256 = x7) (q : Nat) :
    Calls Ybad.prog 16 #[.slice (some ⟨g, 8, none⟩) 8 8, .int .u64 v] ((W.alloc (.cells #[c0, c1, c2, c3, c4, c5, c6, c7, c8, c9, c10, c11, c12, c13, c14, c15] 22)).drewN q) fun e w' => e = .returned (.tuple #[]) ∧ w' = (W.alloc (.cells #[c0, c1, c2, c3, c4, c5, c6, c7, .int .u8 x0, .int .u8 x1, .int .u8 x2, .int .u8 x3, .int .u8 x4, .int .u8 x5, .int .u8 x6, .int .u8 x7] 22)).drewN q := by
  subst hg
  refine (put64_any W.heap.size 8 8 v hv0 hv1 c8 c9 c10 c11 c12 c13 c14 c15 _ (by simp) (by simp) (by simp) (by simp) (by simp) (by simp) (by simp) (by simp) (by simp) (by simp) (by simp) (by simp) (by simp) (by simp) (by simp) (by simp)).mono ?_
  rintro e w' ⟨rfl, rfl⟩
  refine ⟨rfl, ?_⟩
  rw [e0, e1, e2, e3, e4, e5, e6, e7]
  have sd : ∀ (W : World) (j : Nat) (x : Addr) (v : Value), (W.drewN j).setCell x v = (W.setCell x v).drewN j := fun _ _ _ _ => rfl
  simp [World.setCells, sd, World.setCell_alloc_at]

set_option maxHeartbeats 8000000 in
set_option maxRecDepth 100000 in
theorem as16_any (x0 x1 x2 x3 x4 x5 x6 x7 x8 x9 x10 x11 x12 x13 x14 x15 : Int) (z : Option Addr) (w : World) (h0 : IsB x0) (h1 : IsB x1) (h2 : IsB x2) (h3 : IsB x3) (h4 : IsB x4) (h5 : IsB x5) (h6 : IsB x6) (h7 : IsB x7) (h8 : IsB x8) (h9 : IsB x9) (h10 : IsB x10) (h11 : IsB x11) (h12 : IsB x12) (h13 : IsB x13) (h14 : IsB x14) (h15 : IsB x15) :
    Calls Ybad.prog 12 #[.agg #[.int .u64 (be8 x0 x1 x2 x3 x4 x5 x6 x7), .int .u64 (be8 x8 x9 x10 x11 x12 x13 x14 x15), .pointer z]] w fun e w' => e = .returned (.agg #[.int .u8 x0, .int .u8 x1, .int .u8 x2, .int .u8 x3, .int .u8 x4, .int .u8 x5, .int .u8 x6, .int .u8 x7, .int .u8 x8, .int .u8 x9, .int .u8 x10, .int .u8 x11, .int .u8 x12, .int .u8 x13, .int .u8 x14, .int .u8 x15]) ∧ Below w.heap.size w w' := by
  obtain ⟨⟨hh0, hh1⟩, g0, g1, g2, g3, g4, g5, g6, g7⟩ := be8_bytes h0 h1 h2 h3 h4 h5 h6 h7
  obtain ⟨⟨hl0, hl1⟩, l0, l1, l2, l3, l4, l5, l6, l7⟩ := be8_bytes h8 h9 h10 h11 h12 h13 h14 h15
  have sd : ∀ (W : World) (j : Nat) (x : Addr) (v : Value), (W.drewN j).setCell x v = (W.setCell x v).drewN j := fun _ _ _ _ => rfl
  generalize be8 x0 x1 x2 x3 x4 x5 x6 x7 = hi at *
  generalize be8 x8 x9 x10 x11 x12 x13 x14 x15 = lo at *
  go_enter Ybad.func12, Ybad.ntmps12
  go_wp2
  go_region_held3 (fun w' => w'.cell? ⟨w.heap.size, 0, none⟩ = some (.int .u64 hi) ∧ w'.cell? ⟨w.heap.size, 1, none⟩ = some (.int .u64 lo)) (go_keep)
    (first | (go_at_call 16; rw [World.drew_is_drewN]; refine (put64_new0 (w.alloc (.cells #[.int .u64 hi, .int .u64 lo, .pointer z] 49)) (w.heap.size + 1) (by simp) (.int .u8 0) (.int .u8 0) (.int .u8 0) (.int .u8 0) (.int .u8 0) (.int .u8 0) (.int .u8 0) (.int .u8 0) (.int .u8 0) (.int .u8 0) (.int .u8 0) (.int .u8 0) (.int .u8 0) (.int .u8 0) (.int .u8 0) (.int .u8 0) hi hh0 hh1 x0 x1 x2 x3 x4 x5 x6 x7 g0 g1 g2 g3 g4 g5 g6 g7 1).mono ?_; rintro e w' ⟨rfl, rfl⟩))
  go_wp2
  go_region_held3 (fun w' => w'.cell? ⟨w.heap.size, 0, none⟩ = some (.int .u64 hi) ∧ w'.cell? ⟨w.heap.size, 1, none⟩ = some (.int .u64 lo)) (go_keep)
    (first | (go_at_call 16; refine (put64_new8 (w.alloc (.cells #[.int .u64 hi, .int .u64 lo, .pointer z] 49)) (w.heap.size + 1) (by simp) (.int .u8 x0) (.int .u8 x1) (.int .u8 x2) (.int .u8 x3) (.int .u8 x4) (.int .u8 x5) (.int .u8 x6) (.int .u8 x7) (.int .u8 0) (.int .u8 0) (.int .u8 0) (.int .u8 0) (.int .u8 0) (.int .u8 0) (.int .u8 0) (.int .u8 0) lo hl0 hl1 x8 x9 x10 x11 x12 x13 x14 x15 l0 l1 l2 l3 l4 l5 l6 l7 2).mono ?_; rintro e w' ⟨rfl, rfl⟩))
  go_wp2
  exact bodyPost_ret (v := .agg #[.int .u8 x0, .int .u8 x1, .int .u8 x2, .int .u8 x3, .int .u8 x4, .int .u8 x5, .int .u8 x6, .int .u8 x7, .int .u8 x8, .int .u8 x9, .int .u8 x10, .int .u8 x11, .int .u8 x12, .int .u8 x13, .int .u8 x14, .int .u8 x15]) (by simp [results, Ybad.results12, go_sem]) rfl ⟨rfl, below_drewN (((Below.refl _ _).alloc (Nat.le_refl _) _).alloc (by simp) _) _⟩
end Go.Proofs.YbulkedcqDoor
