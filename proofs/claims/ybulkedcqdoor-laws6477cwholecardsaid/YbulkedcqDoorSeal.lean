import Derived.Test.YbulkedcqDoorPut
import Derived.Deep.MidRow
import Derived.Laws.ResultCell
import Derived.WalkLawsBesides
namespace Go.Proofs.YbulkedcqDoor
open Go.RowKit
attribute [local go_sem ↓] Go.wp_at_zero Go.wp_at_succ

/-- The eight cells of the variable 'linkLocal64'. -/
def LL (w : World) : Prop := w.cell? ⟨1, 0, none⟩ = some (.int .u8 254) ∧ w.cell? ⟨1, 1, none⟩ = some (.int .u8 128) ∧ w.cell? ⟨1, 2, none⟩ = some (.int .u8 0) ∧ w.cell? ⟨1, 3, none⟩ = some (.int .u8 0) ∧ w.cell? ⟨1, 4, none⟩ = some (.int .u8 0) ∧ w.cell? ⟨1, 5, none⟩ = some (.int .u8 0) ∧ w.cell? ⟨1, 6, none⟩ = some (.int .u8 0) ∧ w.cell? ⟨1, 7, none⟩ = some (.int .u8 0)

theorem LL.later {w w' : World} {B : Nat} (h : LL w) (b : Below B w w') (hB : 2 ≤ B) : LL w' := by
  obtain ⟨h0, h1, h2, h3, h4, h5, h6, h7⟩ := h
  have e : ∀ i, w'.cell? ⟨1, i, none⟩ = w.cell? ⟨1, i, none⟩ := fun i => b.cell (by show (1 : Nat) < B; omega)
  exact ⟨by rw [e]; exact h0, by rw [e]; exact h1, by rw [e]; exact h2, by rw [e]; exact h3, by rw [e]; exact h4, by rw [e]; exact h5, by rw [e]; exact h6, by rw [e]; exact h7⟩

def z16 : List Value := [.int .u8 0, .int .u8 0, .int .u8 0, .int .u8 0, .int .u8 0, .int .u8 0, .int .u8 0, .int .u8 0, .int .u8 0, .int .u8 0, .int .u8 0, .int .u8 0, .int .u8 0, .int .u8 0, .int .u8 0, .int .u8 0]

theorem z16_one : z16.toArray.all (·.oneCell') = true := by simp [z16, Value.oneCell']

theorem info22 : (Ybad.prog.info? 22).map (·.size) = some 16 := by kernel_rfl

theorem res7 {W : World} {a : Act} {b : Nat} {cs : List Value} {v : Value} (h6 : a.tmps.getD 6 undef = .pointer (some ⟨b, 0, none⟩)) (h7 : a.tmps.getD 7 undef = v) (hr : W.rangeAt b 0 cs) (hl : cs.length = 16) :
    (results Ybad.f7 a.tmps).run Ybad.prog W = .ok (.tuple #[.agg cs.toArray, v]) W := by
  rw [results_cell_tmp Ybad.results7, h6, h7]
  have := run_loadVar_mid (P := Ybad.prog) W b 0 22 cs _ hr Ybad.underlying22 rfl (by rw [hl]; exact info22)
  simp [asAddr, this]

/-- A new block of sixteen cells, later. -/
theorem range_new (w : World) (C : Array Value) (t : TypeId) (w' : World) (b : Below (w.heap.size + 1) (w.alloc (.cells C t)) w') : w'.rangeAt w.heap.size 0 C.toList := by
  intro j v hv
  rw [b.cell (by show w.heap.size < w.heap.size + 1; omega), Nat.zero_add, World.cell?_alloc_at _ _ _ _ rfl]
  simpa using hv
theorem there_new (w : World) (C : Array Value) (t : TypeId) (w' : World) (b : Below (w.heap.size + 1) (w.alloc (.cells C t)) w') : w'.there w.heap.size 0 C.size := by
  intro j hj
  have hlt : w.heap.size < w.heap.size + 1 := by omega
  refine ⟨?_, ?_⟩
  · rw [b.cell (by exact hlt), Nat.zero_add, World.cell?_alloc_at _ _ _ _ rfl]; simp [hj]
  · rw [b.frozen (by exact hlt)]; simp

theorem array66 (b c : Nat) (w : World) : (Instr.arrayAt 66 (.slice (some ⟨b, 0, none⟩) 8 c)).run Ybad.prog w = .ok (.pointer (some ⟨b, 0, none⟩)) w := by
  simp [Instr.arrayAt, run_underlying Ybad.underlying66]

theorem below_setCells {B : Nat} {w : World} (b : Nat) (hb : B ≤ b) : ∀ (vs : List Value) (o : Nat) (w' : World), Below B w w' → Below B w (w'.setCells b o vs)
  | [], _, _, h => h
  | v :: vs, o, w', h => by
    rw [World.setCells]
    exact below_setCells b hb vs (o + 1) _ (h.setCell hb v)

def isLL (x0 x1 x2 x3 x4 x5 x6 x7 : Int) : Bool := [x0, x1, x2, x3, x4, x5, x6, x7] == [254, 128, 0, 0, 0, 0, 0, 0]

theorem neq66 (x0 x1 x2 x3 x4 x5 x6 x7 : Int) (w : World) : (binOp .neq 66 (.agg #[.int .u8 x0, .int .u8 x1, .int .u8 x2, .int .u8 x3, .int .u8 x4, .int .u8 x5, .int .u8 x6, .int .u8 x7]) (.agg #[.int .u8 254, .int .u8 128, .int .u8 0, .int .u8 0, .int .u8 0, .int .u8 0, .int .u8 0, .int .u8 0])).run Ybad.prog w = .ok (.bool (!isLL x0 x1 x2 x3 x4 x5 x6 x7)) w :=
  neq_u8s Ybad.underlying66 [x0, x1, x2, x3, x4, x5, x6, x7] [254, 128, 0, 0, 0, 0, 0, 0] rfl rfl w

set_option maxHeartbeats 8000000 in
set_option maxRecDepth 100000 in
theorem seal_no (sb : Nat) (join port : Int) (x0 x1 x2 x3 x4 x5 x6 x7 x8 x9 x10 x11 x12 x13 x14 x15 : Int) (z : Option Addr) (w : World) (h0 : IsB x0) (h1 : IsB x1) (h2 : IsB x2) (h3 : IsB x3) (h4 : IsB x4) (h5 : IsB x5) (h6 : IsB x6) (h7 : IsB x7) (h8 : IsB x8) (h9 : IsB x9) (h10 : IsB x10) (h11 : IsB x11) (h12 : IsB x12) (h13 : IsB x13) (h14 : IsB x14) (h15 : IsB x15) (hg : LL w) (hw : 2 ≤ w.heap.size) (hll : isLL x0 x1 x2 x3 x4 x5 x6 x7 = false) :
    Calls Ybad.prog 7 #[.pointer (some ⟨sb, 0, none⟩), .int .i64 join, .agg #[.int .u64 (be8 x0 x1 x2 x3 x4 x5 x6 x7), .int .u64 (be8 x8 x9 x10 x11 x12 x13 x14 x15), .pointer z, .int .u16 port]] w fun e w' => e = .returned (.tuple #[.agg #[.int .u8 0, .int .u8 0, .int .u8 0, .int .u8 0, .int .u8 0, .int .u8 0, .int .u8 0, .int .u8 0, .int .u8 0, .int .u8 0, .int .u8 0, .int .u8 0, .int .u8 0, .int .u8 0, .int .u8 0, .int .u8 0], .bool false]) ∧ Below w.heap.size w w' := by
  have hq := neq66 x0 x1 x2 x3 x4 x5 x6 x7
  rw [hll] at hq
  have harr := array66
  have HG : Hid (LL w) := hg
  clear hg hll
  go_enter Ybad.func7, Ybad.ntmps7
  go_wp2_with fail
  refine (addr_any _ _ _ _ _).mono ?_
  rintro e w1 ⟨rfl, hb1⟩
  go_wp2_with fail
  refine (as16_any x0 x1 x2 x3 x4 x5 x6 x7 x8 x9 x10 x11 x12 x13 x14 x15 z w1 h0 h1 h2 h3 h4 h5 h6 h7 h8 h9 h10 h11 h12 h13 h14 h15).mono ?_
  rintro e w2 ⟨rfl, hb2⟩
  have hB1 : Below w.heap.size w w1 := ((((Below.refl _ _).alloc (Nat.le_refl _) _).alloc (by simp) _).alloc (by simp; omega) _).trans (hb1.mono (by simp; omega))
  have hB2 : Below w.heap.size w w2 := hB1.trans (hb2.mono hB1.size)
  have hs2 : w.heap.size + 3 ≤ w2.heap.size := by
    have e1 := hb1.size
    have e2 := hb2.size
    simp only [World.size_alloc] at e1
    omega
  obtain ⟨l0, l1, l2, l3, l4, l5, l6, l7⟩ := HG.out.later hB2 hw
  have hw1 : 1 < w2.heap.size := by omega
  have hb3 : Below w2.heap.size w2 (w2.alloc (.cells #[.int .u8 x0, .int .u8 x1, .int .u8 x2, .int .u8 x3, .int .u8 x4, .int .u8 x5, .int .u8 x6, .int .u8 x7, .int .u8 x8, .int .u8 x9, .int .u8 x10, .int .u8 x11, .int .u8 x12, .int .u8 x13, .int .u8 x14, .int .u8 x15] 22)) := (Below.refl _ _).alloc (Nat.le_refl _) _
  have hbA := (hb1.trans (hb2.mono hb1.size)).trans (hb3.mono (Nat.le_trans hb1.size hb2.size))
  have hr := range_new ((w.alloc (.cells #[.int .u64 (be8 x0 x1 x2 x3 x4 x5 x6 x7), .int .u64 (be8 x8 x9 x10 x11 x12 x13 x14 x15), .pointer z, .int .u16 port] 51)).alloc (.cells #[.int .u8 0, .int .u8 0, .int .u8 0, .int .u8 0, .int .u8 0, .int .u8 0, .int .u8 0, .int .u8 0, .int .u8 0, .int .u8 0, .int .u8 0, .int .u8 0, .int .u8 0, .int .u8 0, .int .u8 0, .int .u8 0] 22)) #[.int .u8 0, .int .u8 0, .int .u8 0, .int .u8 0, .int .u8 0, .int .u8 0, .int .u8 0, .int .u8 0, .int .u8 0, .int .u8 0, .int .u8 0, .int .u8 0, .int .u8 0, .int .u8 0, .int .u8 0, .int .u8 0] 22 _ (hbA.mono (by simp))
  have hbB : Below ((w.alloc (.cells #[.int .u64 (be8 x0 x1 x2 x3 x4 x5 x6 x7), .int .u64 (be8 x8 x9 x10 x11 x12 x13 x14 x15), .pointer z, .int .u16 port] 51)).heap.size + 1) ((w.alloc (.cells #[.int .u64 (be8 x0 x1 x2 x3 x4 x5 x6 x7), .int .u64 (be8 x8 x9 x10 x11 x12 x13 x14 x15), .pointer z, .int .u16 port] 51)).alloc (.cells #[.int .u8 0, .int .u8 0, .int .u8 0, .int .u8 0, .int .u8 0, .int .u8 0, .int .u8 0, .int .u8 0, .int .u8 0, .int .u8 0, .int .u8 0, .int .u8 0, .int .u8 0, .int .u8 0, .int .u8 0, .int .u8 0] 22)) (((w.alloc (.cells #[.int .u64 (be8 x0 x1 x2 x3 x4 x5 x6 x7), .int .u64 (be8 x8 x9 x10 x11 x12 x13 x14 x15), .pointer z, .int .u16 port] 51)).alloc (.cells #[.int .u8 0, .int .u8 0, .int .u8 0, .int .u8 0, .int .u8 0, .int .u8 0, .int .u8 0, .int .u8 0, .int .u8 0, .int .u8 0, .int .u8 0, .int .u8 0, .int .u8 0, .int .u8 0, .int .u8 0, .int .u8 0] 22)).alloc (.cells #[.int .u8 0, .int .u8 0, .int .u8 0, .int .u8 0, .int .u8 0, .int .u8 0, .int .u8 0, .int .u8 0, .int .u8 0, .int .u8 0, .int .u8 0, .int .u8 0, .int .u8 0, .int .u8 0, .int .u8 0, .int .u8 0] 22)) := (Below.refl _ _).alloc (by simp) _
  have ht := there_new (w.alloc (.cells #[.int .u64 (be8 x0 x1 x2 x3 x4 x5 x6 x7), .int .u64 (be8 x8 x9 x10 x11 x12 x13 x14 x15), .pointer z, .int .u16 port] 51)) #[.int .u8 0, .int .u8 0, .int .u8 0, .int .u8 0, .int .u8 0, .int .u8 0, .int .u8 0, .int .u8 0, .int .u8 0, .int .u8 0, .int .u8 0, .int .u8 0, .int .u8 0, .int .u8 0, .int .u8 0, .int .u8 0] 22 _ (hbB.trans (hbA.mono (by simp)))
  rw [World.size_alloc, World.size_alloc] at hr
  rw [World.size_alloc] at ht
  have hbF := hB2.trans (hb3.mono hB2.size)
  clear hb1 hb2 hb3 hbA hbB
  have HR : Hid (World.rangeAt (w2.alloc (.cells #[.int .u8 x0, .int .u8 x1, .int .u8 x2, .int .u8 x3, .int .u8 x4, .int .u8 x5, .int .u8 x6, .int .u8 x7, .int .u8 x8, .int .u8 x9, .int .u8 x10, .int .u8 x11, .int .u8 x12, .int .u8 x13, .int .u8 x14, .int .u8 x15] 22)) (w.heap.size + 1 + 1) 0 z16) := hr
  have HTH : Hid (World.there (w2.alloc (.cells #[.int .u8 x0, .int .u8 x1, .int .u8 x2, .int .u8 x3, .int .u8 x4, .int .u8 x5, .int .u8 x6, .int .u8 x7, .int .u8 x8, .int .u8 x9, .int .u8 x10, .int .u8 x11, .int .u8 x12, .int .u8 x13, .int .u8 x14, .int .u8 x15] 22)) (w.heap.size + 1) 0 16) := ht
  have HBF : Hid (Below w.heap.size w (w2.alloc (.cells #[.int .u8 x0, .int .u8 x1, .int .u8 x2, .int .u8 x3, .int .u8 x4, .int .u8 x5, .int .u8 x6, .int .u8 x7, .int .u8 x8, .int .u8 x9, .int .u8 x10, .int .u8 x11, .int .u8 x12, .int .u8 x13, .int .u8 x14, .int .u8 x15] 22))) := hbF
  clear hr ht hbF hB1 hB2
  go_wp2
  go_quiet (fail)
  go_wp2_with (first | (refine wpList_load_mid rfl 22 _ rfl (w.heap.size + 1 + 1) 0 rfl z16 _ (by exact HR.out) Ybad.underlying22 rfl info22 ?_) | (refine wpList_store_mid rfl 22 _ _ rfl (w.heap.size + 1) 0 z16.toArray rfl rfl (by exact HTH.out) info22 z16_one ?_))
  exact bodyPost_ret (res7 (cs := z16) rfl rfl (World.rangeAt_setCells_same _ _ _ _ HTH.out) rfl) rfl ⟨rfl, below_setCells _ (by omega) _ _ _ (below_drewN HBF.out _)⟩
end Go.Proofs.YbulkedcqDoor
