import Derived.Test.YbulkedgySys
import Derived.Deep.DeepCutAuto
namespace Go.Proofs.Ybulkedgy
open Go.RowKit

theorem info28 : (Yba.prog.info? 28).map (·.size) = some 25 := by kernel_rfl
theorem info37 : (Yba.prog.info? 37).map (·.size) = some 25 := by kernel_rfl
theorem info36 : (Yba.prog.info? 36).map (·.size) = some 12 := by kernel_rfl

theorem range_new (w : World) (C : Array Value) (t : TypeId) (w' : World) (b : Below (w.heap.size + 1) (w.alloc (.cells C t)) w') : w'.rangeAt w.heap.size 0 C.toList := by
  intro j v hv
  rw [b.cell (by show w.heap.size < w.heap.size + 1; omega), Nat.zero_add, World.cell?_alloc_at _ _ _ _ rfl]
  simpa using hv
theorem there_new (w : World) (C : Array Value) (t : TypeId) (w' : World) (b : Below (w.heap.size + 1) (w.alloc (.cells C t)) w') : w'.there w.heap.size 0 C.size := by
  intro j hj
  have hlt : w.heap.size < w.heap.size + 1 := by omega
  refine ⟨?_, ?_⟩
  · rw [b.cell (by exact hlt), Nat.zero_add, World.cell?_alloc_at _ _ _ _ rfl]; simp [hj]
  · rw [b.frozen (by exact hlt)]; simp

theorem below_setCells {B : Nat} {w : World} (b : Nat) (hb : B ≤ b) : ∀ (vs : List Value) (o : Nat) (w' : World), Below B w w' → Below B w (w'.setCells b o vs)
  | [], _, _, h => h
  | v :: vs, o, w', h => by
    rw [World.setCells]
    exact below_setCells b hb vs (o + 1) _ (h.setCell hb v)

theorem size_setCells (b : Nat) : ∀ (vs : List Value) (o : Nat) (w : World), (w.setCells b o vs).heap.size = w.heap.size
  | [], _, _ => rfl
  | v :: vs, o, w => by
    rw [World.setCells, size_setCells b vs (o + 1)]
    simp [World.setCell]

theorem frozen_setCells (b : Nat) (a : Addr) : ∀ (vs : List Value) (o : Nat) (w : World), (w.setCells b o vs).frozen? a = w.frozen? a
  | [], _, _ => rfl
  | v :: vs, o, w => by
    rw [World.setCells, frozen_setCells b a vs (o + 1), World.frozen?_setCell]

theorem range_keep {w w1 : World} {g o : Nat} {cs : List Value} {B : Nat} (b : Below B w w1) (hg : g < B) (h : w.rangeAt g o cs) : w1.rangeAt g o cs := by
  intro j v hv
  rw [b.cell (by exact hg)]
  exact h j v hv

/-- A new block of a variable, and what is laid into it. -/
structure Stage (v v' : World) (vs : List Value) : Prop where
  row : v'.rangeAt v.heap.size 0 vs
  bel : Below v.heap.size v v'
  size : v'.heap.size = v.heap.size + 1
  froz : ∀ i, v'.frozen? ⟨v.heap.size, i, none⟩ = false

theorem stage (v : World) (Z : Array Value) (t : TypeId) (vs : List Value) (h : Z.size = vs.length) : Stage v ((v.alloc (.cells Z t)).setCells v.heap.size 0 vs) vs := by
  have ht := there_new v Z t _ (Below.refl _ _)
  rw [h] at ht
  refine ⟨World.rangeAt_setCells_same _ _ _ _ ht, below_setCells _ (Nat.le_refl _) _ _ _ ((Below.refl _ _).alloc (Nat.le_refl _) _), ?_, fun i => ?_⟩
  · rw [size_setCells]; simp
  · rw [frozen_setCells]; simp

theorem stage_there (v : World) (Z : Array Value) (t : TypeId) (vs : List Value) (h : Z.size = vs.length) : (v.alloc (.cells Z t)).there v.heap.size 0 vs.toArray.size := by
  have ht := there_new v Z t _ (Below.refl _ _)
  rw [h] at ht
  simpa using ht

/-- Twenty-five zero bytes. -/
def zero25 : Array Value := #[.int .u8 0, .int .u8 0, .int .u8 0, .int .u8 0, .int .u8 0, .int .u8 0, .int .u8 0, .int .u8 0, .int .u8 0, .int .u8 0, .int .u8 0, .int .u8 0, .int .u8 0, .int .u8 0, .int .u8 0, .int .u8 0, .int .u8 0, .int .u8 0, .int .u8 0, .int .u8 0, .int .u8 0, .int .u8 0, .int .u8 0, .int .u8 0, .int .u8 0]
/-- The zero System. -/
def zero12 : Array Value := #[.int .u8 0, .int .u8 0, .float .f64 0, .float .f64 0, .int .u16 0, .int .i64 0, .int .i64 0, .int .u16 0, .int .u16 0, .int .u8 0, .int .u8 0, .int .u32 0]
end Go.Proofs.Ybulkedgy
