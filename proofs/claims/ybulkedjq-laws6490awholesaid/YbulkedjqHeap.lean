import Derived.Test.YbulkedjqChecked
import Derived.WalkKit
import Derived.Below
import Derived.ArgAppend
import Derived.Laws.CopyOwn
import Derived.Deep.DeepCutAuto
import Derived.Deep.QuietTactic
import Derived.BigQuiet
import Derived.WideShapes
import Derived.Deep.RegionHeld3
import Derived.Deep.MidRow
namespace Go.Proofs.Ybulkedjq
open Go.RowKit

/-- Block k holds the cells cur, none of them frozen. -/
def Blk (w : World) (k : Nat) (t : TypeId) (cur : Array Value) : Prop := w.heap[k]? = some (.cells cur t (0, 0))

theorem Blk.cell {w : World} {k : Nat} {t : TypeId} {cur : Array Value} (h : Blk w k t cur) (i : Nat) : w.cell? ⟨k, i, none⟩ = cur[i]? := by
  unfold Blk at h
  simp [World.cell?, h]
theorem Blk.frozen {w : World} {k : Nat} {t : TypeId} {cur : Array Value} (h : Blk w k t cur) (i : Nat) : w.frozen? ⟨k, i, none⟩ = false := by
  unfold Blk at h
  simp [World.frozen?, h]
theorem Blk.lt {w : World} {k : Nat} {t : TypeId} {cur : Array Value} (h : Blk w k t cur) : k < w.heap.size := by
  unfold Blk at h
  by_cases e : k < w.heap.size
  · exact e
  · rw [Array.getElem?_eq_none (by omega)] at h; cases h
theorem Blk.set {w : World} {k : Nat} {t : TypeId} {cur : Array Value} (h : Blk w k t cur) (i : Nat) (v : Value) : Blk (w.setCell ⟨k, i, none⟩ v) k t (cur.setIfInBounds i v) := by
  have hl := h.lt
  unfold Blk at h ⊢
  simp [World.setCell, Array.getElem?_modify, h]
theorem Blk.new (w : World) (t : TypeId) (C : Array Value) : Blk (w.alloc (.cells C t)) w.heap.size t C := by
  show (w.heap.push _)[w.heap.size]? = _
  simp
theorem Blk.drewN {w : World} {k : Nat} {t : TypeId} {cur : Array Value} (h : Blk w k t cur) (q : Nat) : Blk (w.drewN q) k t cur := h

/-- Of the blocks of w all but those of T are in w' as they were. -/
structure Keep (T : Nat → Prop) (w w' : World) : Prop where
  os : w'.os = w.os
  tape : w'.tape = w.tape
  output : w'.output = w.output
  size : w.heap.size ≤ w'.heap.size
  block : ∀ k, k < w.heap.size → ¬ T k → w'.heap[k]? = w.heap[k]?

theorem Keep.refl (T : Nat → Prop) (w : World) : Keep T w w := ⟨rfl, rfl, rfl, Nat.le_refl _, fun _ _ _ => rfl⟩
theorem Keep.trans {T : Nat → Prop} {a b c : World} (h : Keep T a b) (k : Keep T b c) : Keep T a c :=
  ⟨k.os.trans h.os, k.tape.trans h.tape, k.output.trans h.output, Nat.le_trans h.size k.size, fun i hi ht => (k.block i (Nat.lt_of_lt_of_le hi h.size) ht).trans (h.block i hi ht)⟩
theorem Keep.then {T U : Nat → Prop} {a b c : World} (h : Keep T a b) (k : Keep U b c) (hU : ∀ i, i < a.heap.size → U i → T i) : Keep T a c :=
  ⟨k.os.trans h.os, k.tape.trans h.tape, k.output.trans h.output, Nat.le_trans h.size k.size, fun i hi ht => (k.block i (Nat.lt_of_lt_of_le hi h.size) (fun hu => ht (hU i hi hu))).trans (h.block i hi ht)⟩
theorem Keep.mono {T U : Nat → Prop} {w w' : World} (h : Keep T w w') (hTU : ∀ k, k < w.heap.size → T k → U k) : Keep U w w' :=
  ⟨h.os, h.tape, h.output, h.size, fun k hk hu => h.block k hk (fun ht => hu (hTU k hk ht))⟩
theorem Keep.set (w : World) (b i : Nat) (v : Value) : Keep (· = b) w (w.setCell ⟨b, i, none⟩ v) :=
  ⟨rfl, rfl, rfl, by simp [World.setCell], fun k _ ht => Below.heap_setCell _ _ _ _ ht⟩
theorem Keep.alloc (w : World) (o : Obj) : Keep (fun _ => False) w (w.alloc o) :=
  ⟨rfl, rfl, rfl, by simp, fun k hk _ => Below.heap_alloc _ _ _ hk⟩
theorem Keep.drewN {T : Nat → Prop} {w w' : World} (h : Keep T w w') (q : Nat) : Keep T w (w'.drewN q) := ⟨h.os, h.tape, h.output, h.size, h.block⟩
theorem Keep.grown {w w' : World} {row : Option Nat} (h : w.grownBy w' row) : Keep (fun k => some k = row) w w' := ⟨h.os, h.tape, h.output, h.size, h.block⟩
theorem Keep.blk {T : Nat → Prop} {w w' : World} (h : Keep T w w') {k : Nat} {t : TypeId} {cur : Array Value} (hb : Blk w k t cur) (hT : ¬ T k) : Blk w' k t cur := (h.block k hb.lt hT).trans hb
theorem Keep.cell {T : Nat → Prop} {w w' : World} (h : Keep T w w') {a : Addr} {v : Value} (hc : w.cell? a = some v) (hT : ¬ T a.block) : w'.cell? a = some v :=
  (World.cell?_of_block (w := w) (h.block a.block (World.block_lt_of_cell? w a hc) hT)).trans hc
theorem Keep.below {T : Nat → Prop} {w w' : World} (h : Keep T w w') {B : Nat} (hB : B ≤ w.heap.size) (hT : ∀ k, k < B → ¬ T k) : Below B w w' :=
  ⟨h.os, h.tape, h.output, h.size, fun k hk => h.block k (by omega) (hT k hk)⟩
theorem Below.keep {B : Nat} {w w' : World} (h : Below B w w') : Keep (fun k => B ≤ k) w w' :=
  ⟨h.os, h.tape, h.output, h.size, fun k _ hT => h.block k (by omega)⟩
theorem Hid.mk' {p : Prop} (h : p) : Hid p := h
end Go.Proofs.Ybulkedjq
