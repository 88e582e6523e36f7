import Derived.Test.YbulkedcqDoorSeal
namespace Go.Proofs.YbulkedcqDoor
open Go.RowKit
attribute [local go_sem ↓] Go.wp_at_zero Go.wp_at_succ

theorem Two.cell {w w' : World} {cb hb : Nat} {fc fh : Nat → Value} (h : Two w cb hb fc fh w') {k : Nat} (h0 : k < w.heap.size) (h1 : k ≠ cb) (h2 : k ≠ hb) (o : Nat) : w'.cell? ⟨k, o, none⟩ = w.cell? ⟨k, o, none⟩ :=
  World.cell?_of_block (w := w) (h.block k h0 h1 h2)
theorem Two.range {w w' : World} {cb hb : Nat} {fc fh : Nat → Value} (h : Two w cb hb fc fh w') {k o : Nat} {cs : List Value} (h0 : k < w.heap.size) (h1 : k ≠ cb) (h2 : k ≠ hb) (hr : w.rangeAt k o cs) : w'.rangeAt k o cs :=
  fun j v hv => (h.cell h0 h1 h2 _).trans (hr j v hv)
theorem Two.thereAt {w w' : World} {cb hb : Nat} {fc fh : Nat → Value} (h : Two w cb hb fc fh w') {k o n : Nat} (h0 : k < w.heap.size) (h1 : k ≠ cb) (h2 : k ≠ hb) (hr : w.there k o n) : w'.there k o n :=
  fun j hj => ⟨by rw [h.cell h0 h1 h2]; exact (hr j hj).1, by rw [h.froz _ (by exact h0)]; exact (hr j hj).2⟩
theorem Two.shape {w w' : World} {cb hb : Nat} {fc fh : Nat → Value} (h : Two w cb hb fc fh w') {k : Nat} (h0 : k < w.heap.size) (h1 : k ≠ cb) (h2 : k ≠ hb) : w'.shape? k = w.shape? k := by
  unfold World.shape?; rw [h.block k h0 h1 h2]

/-- Of what was there one block alone may have turned: 'cb', whose 34 cells hold 'fc'. -/
structure One (w : World) (cb : Nat) (fc : Nat → Value) (w' : World) : Prop where
  cur : ∀ i, i < 34 → w'.cell? ⟨cb, i, none⟩ = some (fc i)
  os : w'.os = w.os
  tape : w'.tape = w.tape
  output : w'.output = w.output
  size : w.heap.size ≤ w'.heap.size
  block : ∀ k, k < w.heap.size → k ≠ cb → w'.heap[k]? = w.heap[k]?

def xorL (pl ks : List Int) : List Int := (List.range 16).map fun i => bits .xor .u8 (pl.getD i 0) (ks.getD i 0)

theorem xorL_range {w : World} {hb : Nat} {fh : Nat → Value} {pl ks : List Int} (h : ∀ i, i < 16 → w.cell? ⟨hb, i, none⟩ = some (fh i)) (hf : ∀ i, i < 16 → fh i = .int .u8 (bits .xor .u8 (pl.getD i 0) (ks.getD i 0))) : w.rangeAt hb 0 ((xorL pl ks).map (Value.int .u8)) := by
  intro j v hv
  have hj : j < 16 := by have := (List.getElem?_eq_some_iff.1 hv).1; simpa [xorL] using this
  rw [Nat.zero_add, h j hj, hf j hj, ← hv]
  simp [xorL, hj]

theorem xorL_one (pl ks : List Int) : ((xorL pl ks).map (Value.int .u8)).toArray.all (·.oneCell') = true := by simp [Value.oneCell']
theorem xorL_len (pl ks : List Int) : (xorL pl ks).length = 16 := by simp [xorL]

def updL (f : Nat → Value) : Nat → List Value → Nat → Value
  | _, [] => f
  | o, v :: vs => updL (upd f o v) (o + 1) vs

theorem Two.setHds {w : World} {cb hb : Nat} {fc : Nat → Value} (hne : cb ≠ hb) : ∀ (vs : List Value) (o : Nat) (fh : Nat → Value) (w' : World), Two w cb hb fc fh w' → o + vs.length ≤ 16 → Two w cb hb fc (updL fh o vs) (w'.setCells hb o vs)
  | [], _, _, _, h, _ => h
  | v :: vs, o, fh, w', h, hl => by
    rw [World.setCells]
    exact Two.setHds hne vs (o + 1) _ _ (h.setHd hne o (by simp at hl; omega) v) (by simp at hl; omega)

/-- What seal lays in the block before it is encrypted. -/
def plainOf (join port x8 x9 x10 x11 x12 x13 x14 x15 : Int) : List Int := [0, join % 256, port / 256, port % 256, x8, x9, x10, x11, x12, x13, x14, x15, 0, 0, 0, 0]

theorem plain_cells (join port x8 x9 x10 x11 x12 x13 x14 x15 : Int) (i : Nat) (hi : i < 16) :
    updL (upd (upd (upd (upd (fun i => .int .u8 (([] : List Int).getD i 0)) 0 (.int .u8 0)) 1 (.int .u8 (join % 256))) 2 (.int .u8 (port / 256))) 3 (.int .u8 (port % 256))) 4 [.int .u8 x8, .int .u8 x9, .int .u8 x10, .int .u8 x11, .int .u8 x12, .int .u8 x13, .int .u8 x14, .int .u8 x15] i
      = .int .u8 ((plainOf join port x8 x9 x10 x11 x12 x13 x14 x15).getD i 0) := by
  match i, hi with
  | 0, _ | 1, _ | 2, _ | 3, _ | 4, _ | 5, _ | 6, _ | 7, _ | 8, _ | 9, _ | 10, _ | 11, _ | 12, _ | 13, _ | 14, _ | 15, _ => rfl
  | _ + 16, h => omega

theorem plain_all {join port x8 x9 x10 x11 x12 x13 x14 x15 : Int} (hp0 : 0 ≤ port) (hp1 : port < 65536) (h8 : IsB x8) (h9 : IsB x9) (h10 : IsB x10) (h11 : IsB x11) (h12 : IsB x12) (h13 : IsB x13) (h14 : IsB x14) (h15 : IsB x15) : AllB (plainOf join port x8 x9 x10 x11 x12 x13 x14 x15) := by
  have z : IsB 0 := ⟨by omega, by omega⟩
  exact allB16 z ⟨by omega, by omega⟩ ⟨by omega, by omega⟩ ⟨by omega, by omega⟩ h8 h9 h10 h11 h12 h13 h14 h15 z z z z

set_option maxHeartbeats 8000000 in
set_option maxRecDepth 100000 in
theorem seal_ll (sb kb cb : Nat) (join port : Int) (x0 x1 x2 x3 x4 x5 x6 x7 x8 x9 x10 x11 x12 x13 x14 x15 : Int) (z : Option Addr) (ks : List Int) (fc : Nat → Value) (w : World) (h0 : IsB x0) (h1 : IsB x1) (h2 : IsB x2) (h3 : IsB x3) (h4 : IsB x4) (h5 : IsB x5) (h6 : IsB x6) (h7 : IsB x7) (h8 : IsB x8) (h9 : IsB x9) (h10 : IsB x10) (h11 : IsB x11) (h12 : IsB x12) (h13 : IsB x13) (h14 : IsB x14) (h15 : IsB x15) (hg : LL w) (hw : 2 ≤ w.heap.size) (hll : isLL x0 x1 x2 x3 x4 x5 x6 x7 = true) (hp0 : 0 ≤ port) (hp1 : port < 65536)
    (hsb : w.cell? ⟨sb, 0, none⟩ = some (.pointer (some ⟨kb, 0, none⟩))) (hkb : w.shape? kb = some (31, 2)) (hki : w.cell? ⟨kb, 0, none⟩ = some (.iface 24 (.pointer (some ⟨cb, 0, none⟩))))
    (hc : ∀ i, i < 34 → w.cell? ⟨cb, i, none⟩ = some (fc i)) (hkey : ∀ i, i < 16 → fc i = .int .u8 (ks.getD i 0)) (hn : fc 16 = .int .i64 0) (hfc : ∀ i, w.frozen? ⟨cb, i, none⟩ = false) (hks : AllB ks) :
    Calls Ybad.prog 7 #[.pointer (some ⟨sb, 0, none⟩), .int .i64 join, .agg #[.int .u64 (be8 x0 x1 x2 x3 x4 x5 x6 x7), .int .u64 (be8 x8 x9 x10 x11 x12 x13 x14 x15), .pointer z, .int .u16 port]] w fun e w' => e = .returned (.tuple #[.agg ((xorL (plainOf join port x8 x9 x10 x11 x12 x13 x14 x15) ks).map (Value.int .u8)).toArray, .bool true]) ∧
      ∃ fc', One w cb fc' w' ∧ (∀ i, i < 16 → fc' i = .int .u8 (ks.getD i 0)) ∧ fc' 16 = .int .i64 1 ∧ fc' 17 = fc 17 ∧ (∀ i, i < 16 → fc' (18 + i) = .int .u8 ((plainOf join port x8 x9 x10 x11 x12 x13 x14 x15).getD i 0)) := by
  have hq := neq66 x0 x1 x2 x3 x4 x5 x6 x7
  rw [hll] at hq
  have harr := array66
  have HG : Hid (LL w) := hg
  have HC : Hid ((∀ i, i < 34 → w.cell? ⟨cb, i, none⟩ = some (fc i)) ∧ (∀ i, i < 16 → fc i = .int .u8 (ks.getD i 0)) ∧ fc 16 = .int .i64 0 ∧ (∀ i, w.frozen? ⟨cb, i, none⟩ = false)) := ⟨hc, hkey, hn, hfc⟩
  have HS : Hid (w.cell? ⟨sb, 0, none⟩ = some (.pointer (some ⟨kb, 0, none⟩)) ∧ w.shape? kb = some (31, 2) ∧ w.cell? ⟨kb, 0, none⟩ = some (.iface 24 (.pointer (some ⟨cb, 0, none⟩)))) := ⟨hsb, hkb, hki⟩
  have hcb : cb < w.heap.size := World.block_lt_of_cell? w ⟨cb, 0, none⟩ (hc 0 (by omega))
  clear hg hll hc hkey hn hfc hsb hkb hki
  go_enter Ybad.func7, Ybad.ntmps7
  go_wp2_with fail
  refine (addr_any _ _ _ _ _).mono ?_
  rintro e w1 ⟨rfl, hb1⟩
  go_wp2_with fail
  refine (as16_any x0 x1 x2 x3 x4 x5 x6 x7 x8 x9 x10 x11 x12 x13 x14 x15 z w1 h0 h1 h2 h3 h4 h5 h6 h7 h8 h9 h10 h11 h12 h13 h14 h15).mono ?_
  rintro e w2 ⟨rfl, hb2⟩
  have hB1 : Below w.heap.size w w1 := ((((Below.refl _ _).alloc (Nat.le_refl _) _).alloc (by simp) _).alloc (by simp; omega) _).trans (hb1.mono (by simp; omega))
  have hB2 : Below w.heap.size w w2 := hB1.trans (hb2.mono hB1.size)
  have hs2 : w.heap.size + 3 ≤ w2.heap.size := by
    have e1 := hb1.size
    have e2 := hb2.size
    simp only [World.size_alloc] at e1
    omega
  obtain ⟨l0, l1, l2, l3, l4, l5, l6, l7⟩ := HG.out.later hB2 hw
  have hw1 : 1 < w2.heap.size := by omega
  have hb3 : Below w2.heap.size w2 (w2.alloc (.cells #[.int .u8 x0, .int .u8 x1, .int .u8 x2, .int .u8 x3, .int .u8 x4, .int .u8 x5, .int .u8 x6, .int .u8 x7, .int .u8 x8, .int .u8 x9, .int .u8 x10, .int .u8 x11, .int .u8 x12, .int .u8 x13, .int .u8 x14, .int .u8 x15] 22)) := (Below.refl _ _).alloc (Nat.le_refl _) _
  have hbA := (hb1.trans (hb2.mono hb1.size)).trans (hb3.mono (Nat.le_trans hb1.size hb2.size))
  have hr := range_new ((w.alloc (.cells #[.int .u64 (be8 x0 x1 x2 x3 x4 x5 x6 x7), .int .u64 (be8 x8 x9 x10 x11 x12 x13 x14 x15), .pointer z, .int .u16 port] 51)).alloc (.cells #[.int .u8 0, .int .u8 0, .int .u8 0, .int .u8 0, .int .u8 0, .int .u8 0, .int .u8 0, .int .u8 0, .int .u8 0, .int .u8 0, .int .u8 0, .int .u8 0, .int .u8 0, .int .u8 0, .int .u8 0, .int .u8 0] 22)) #[.int .u8 0, .int .u8 0, .int .u8 0, .int .u8 0, .int .u8 0, .int .u8 0, .int .u8 0, .int .u8 0, .int .u8 0, .int .u8 0, .int .u8 0, .int .u8 0, .int .u8 0, .int .u8 0, .int .u8 0, .int .u8 0] 22 _ (hbA.mono (by simp))
  have hrt := there_new ((w.alloc (.cells #[.int .u64 (be8 x0 x1 x2 x3 x4 x5 x6 x7), .int .u64 (be8 x8 x9 x10 x11 x12 x13 x14 x15), .pointer z, .int .u16 port] 51)).alloc (.cells #[.int .u8 0, .int .u8 0, .int .u8 0, .int .u8 0, .int .u8 0, .int .u8 0, .int .u8 0, .int .u8 0, .int .u8 0, .int .u8 0, .int .u8 0, .int .u8 0, .int .u8 0, .int .u8 0, .int .u8 0, .int .u8 0] 22)) #[.int .u8 0, .int .u8 0, .int .u8 0, .int .u8 0, .int .u8 0, .int .u8 0, .int .u8 0, .int .u8 0, .int .u8 0, .int .u8 0, .int .u8 0, .int .u8 0, .int .u8 0, .int .u8 0, .int .u8 0, .int .u8 0] 22 _ (hbA.mono (by simp))
  have hbB : Below ((w.alloc (.cells #[.int .u64 (be8 x0 x1 x2 x3 x4 x5 x6 x7), .int .u64 (be8 x8 x9 x10 x11 x12 x13 x14 x15), .pointer z, .int .u16 port] 51)).heap.size + 1) ((w.alloc (.cells #[.int .u64 (be8 x0 x1 x2 x3 x4 x5 x6 x7), .int .u64 (be8 x8 x9 x10 x11 x12 x13 x14 x15), .pointer z, .int .u16 port] 51)).alloc (.cells #[.int .u8 0, .int .u8 0, .int .u8 0, .int .u8 0, .int .u8 0, .int .u8 0, .int .u8 0, .int .u8 0, .int .u8 0, .int .u8 0, .int .u8 0, .int .u8 0, .int .u8 0, .int .u8 0, .int .u8 0, .int .u8 0] 22)) (((w.alloc (.cells #[.int .u64 (be8 x0 x1 x2 x3 x4 x5 x6 x7), .int .u64 (be8 x8 x9 x10 x11 x12 x13 x14 x15), .pointer z, .int .u16 port] 51)).alloc (.cells #[.int .u8 0, .int .u8 0, .int .u8 0, .int .u8 0, .int .u8 0, .int .u8 0, .int .u8 0, .int .u8 0, .int .u8 0, .int .u8 0, .int .u8 0, .int .u8 0, .int .u8 0, .int .u8 0, .int .u8 0, .int .u8 0] 22)).alloc (.cells #[.int .u8 0, .int .u8 0, .int .u8 0, .int .u8 0, .int .u8 0, .int .u8 0, .int .u8 0, .int .u8 0, .int .u8 0, .int .u8 0, .int .u8 0, .int .u8 0, .int .u8 0, .int .u8 0, .int .u8 0, .int .u8 0] 22)) := (Below.refl _ _).alloc (by simp) _
  have ht := there_new (w.alloc (.cells #[.int .u64 (be8 x0 x1 x2 x3 x4 x5 x6 x7), .int .u64 (be8 x8 x9 x10 x11 x12 x13 x14 x15), .pointer z, .int .u16 port] 51)) #[.int .u8 0, .int .u8 0, .int .u8 0, .int .u8 0, .int .u8 0, .int .u8 0, .int .u8 0, .int .u8 0, .int .u8 0, .int .u8 0, .int .u8 0, .int .u8 0, .int .u8 0, .int .u8 0, .int .u8 0, .int .u8 0] 22 _ (hbB.trans (hbA.mono (by simp)))
  have hbC : Below (w.heap.size + 1) (w.alloc (.cells #[.int .u64 (be8 x0 x1 x2 x3 x4 x5 x6 x7), .int .u64 (be8 x8 x9 x10 x11 x12 x13 x14 x15), .pointer z, .int .u16 port] 51)) (((w.alloc (.cells #[.int .u64 (be8 x0 x1 x2 x3 x4 x5 x6 x7), .int .u64 (be8 x8 x9 x10 x11 x12 x13 x14 x15), .pointer z, .int .u16 port] 51)).alloc (.cells #[.int .u8 0, .int .u8 0, .int .u8 0, .int .u8 0, .int .u8 0, .int .u8 0, .int .u8 0, .int .u8 0, .int .u8 0, .int .u8 0, .int .u8 0, .int .u8 0, .int .u8 0, .int .u8 0, .int .u8 0, .int .u8 0] 22)).alloc (.cells #[.int .u8 0, .int .u8 0, .int .u8 0, .int .u8 0, .int .u8 0, .int .u8 0, .int .u8 0, .int .u8 0, .int .u8 0, .int .u8 0, .int .u8 0, .int .u8 0, .int .u8 0, .int .u8 0, .int .u8 0, .int .u8 0] 22)) := ((Below.refl _ _).alloc (by simp) _).alloc (by simp) _
  have hpl := range_new w #[.int .u64 (be8 x0 x1 x2 x3 x4 x5 x6 x7), .int .u64 (be8 x8 x9 x10 x11 x12 x13 x14 x15), .pointer z, .int .u16 port] 51 _ (hbC.trans (hbA.mono (by simp)))
  have hax := range_new w2 #[.int .u8 x0, .int .u8 x1, .int .u8 x2, .int .u8 x3, .int .u8 x4, .int .u8 x5, .int .u8 x6, .int .u8 x7, .int .u8 x8, .int .u8 x9, .int .u8 x10, .int .u8 x11, .int .u8 x12, .int .u8 x13, .int .u8 x14, .int .u8 x15] 22 _ (Below.refl _ _)
  rw [World.size_alloc, World.size_alloc] at hr hrt
  rw [World.size_alloc] at ht
  have hbF := hB2.trans (hb3.mono hB2.size)
  clear hb1 hb2 hb3 hbA hbB hbC hB1 hB2
  have H3 : Hid (World.rangeAt (w2.alloc (.cells #[.int .u8 x0, .int .u8 x1, .int .u8 x2, .int .u8 x3, .int .u8 x4, .int .u8 x5, .int .u8 x6, .int .u8 x7, .int .u8 x8, .int .u8 x9, .int .u8 x10, .int .u8 x11, .int .u8 x12, .int .u8 x13, .int .u8 x14, .int .u8 x15] 22)) (w.heap.size + 1 + 1) 0 z16 ∧ World.there (w2.alloc (.cells #[.int .u8 x0, .int .u8 x1, .int .u8 x2, .int .u8 x3, .int .u8 x4, .int .u8 x5, .int .u8 x6, .int .u8 x7, .int .u8 x8, .int .u8 x9, .int .u8 x10, .int .u8 x11, .int .u8 x12, .int .u8 x13, .int .u8 x14, .int .u8 x15] 22)) (w.heap.size + 1 + 1) 0 16 ∧ World.there (w2.alloc (.cells #[.int .u8 x0, .int .u8 x1, .int .u8 x2, .int .u8 x3, .int .u8 x4, .int .u8 x5, .int .u8 x6, .int .u8 x7, .int .u8 x8, .int .u8 x9, .int .u8 x10, .int .u8 x11, .int .u8 x12, .int .u8 x13, .int .u8 x14, .int .u8 x15] 22)) (w.heap.size + 1) 0 16 ∧
    World.rangeAt (w2.alloc (.cells #[.int .u8 x0, .int .u8 x1, .int .u8 x2, .int .u8 x3, .int .u8 x4, .int .u8 x5, .int .u8 x6, .int .u8 x7, .int .u8 x8, .int .u8 x9, .int .u8 x10, .int .u8 x11, .int .u8 x12, .int .u8 x13, .int .u8 x14, .int .u8 x15] 22)) w.heap.size 0 [.int .u64 (be8 x0 x1 x2 x3 x4 x5 x6 x7), .int .u64 (be8 x8 x9 x10 x11 x12 x13 x14 x15), .pointer z, .int .u16 port] ∧ World.rangeAt (w2.alloc (.cells #[.int .u8 x0, .int .u8 x1, .int .u8 x2, .int .u8 x3, .int .u8 x4, .int .u8 x5, .int .u8 x6, .int .u8 x7, .int .u8 x8, .int .u8 x9, .int .u8 x10, .int .u8 x11, .int .u8 x12, .int .u8 x13, .int .u8 x14, .int .u8 x15] 22)) w2.heap.size 0 [.int .u8 x0, .int .u8 x1, .int .u8 x2, .int .u8 x3, .int .u8 x4, .int .u8 x5, .int .u8 x6, .int .u8 x7, .int .u8 x8, .int .u8 x9, .int .u8 x10, .int .u8 x11, .int .u8 x12, .int .u8 x13, .int .u8 x14, .int .u8 x15] ∧ Below w.heap.size w (w2.alloc (.cells #[.int .u8 x0, .int .u8 x1, .int .u8 x2, .int .u8 x3, .int .u8 x4, .int .u8 x5, .int .u8 x6, .int .u8 x7, .int .u8 x8, .int .u8 x9, .int .u8 x10, .int .u8 x11, .int .u8 x12, .int .u8 x13, .int .u8 x14, .int .u8 x15] 22))) := ⟨hr, hrt, ht, hpl, hax, hbF⟩
  clear hr hrt ht hpl hax hbF
  go_wp2
  go_quiet (fail)
  have H4 : Hid (World.rangeAt ((w2.alloc (.cells #[.int .u8 x0, .int .u8 x1, .int .u8 x2, .int .u8 x3, .int .u8 x4, .int .u8 x5, .int .u8 x6, .int .u8 x7, .int .u8 x8, .int .u8 x9, .int .u8 x10, .int .u8 x11, .int .u8 x12, .int .u8 x13, .int .u8 x14, .int .u8 x15] 22)).drewN nq) (w.heap.size + 1 + 1) 0 z16 ∧ World.there ((w2.alloc (.cells #[.int .u8 x0, .int .u8 x1, .int .u8 x2, .int .u8 x3, .int .u8 x4, .int .u8 x5, .int .u8 x6, .int .u8 x7, .int .u8 x8, .int .u8 x9, .int .u8 x10, .int .u8 x11, .int .u8 x12, .int .u8 x13, .int .u8 x14, .int .u8 x15] 22)).drewN nq) (w.heap.size + 1 + 1) 0 16 ∧ World.there ((w2.alloc (.cells #[.int .u8 x0, .int .u8 x1, .int .u8 x2, .int .u8 x3, .int .u8 x4, .int .u8 x5, .int .u8 x6, .int .u8 x7, .int .u8 x8, .int .u8 x9, .int .u8 x10, .int .u8 x11, .int .u8 x12, .int .u8 x13, .int .u8 x14, .int .u8 x15] 22)).drewN nq) (w.heap.size + 1) 0 16 ∧
    World.rangeAt ((w2.alloc (.cells #[.int .u8 x0, .int .u8 x1, .int .u8 x2, .int .u8 x3, .int .u8 x4, .int .u8 x5, .int .u8 x6, .int .u8 x7, .int .u8 x8, .int .u8 x9, .int .u8 x10, .int .u8 x11, .int .u8 x12, .int .u8 x13, .int .u8 x14, .int .u8 x15] 22)).drewN nq) w.heap.size 0 [.int .u64 (be8 x0 x1 x2 x3 x4 x5 x6 x7), .int .u64 (be8 x8 x9 x10 x11 x12 x13 x14 x15), .pointer z, .int .u16 port] ∧ World.rangeAt ((w2.alloc (.cells #[.int .u8 x0, .int .u8 x1, .int .u8 x2, .int .u8 x3, .int .u8 x4, .int .u8 x5, .int .u8 x6, .int .u8 x7, .int .u8 x8, .int .u8 x9, .int .u8 x10, .int .u8 x11, .int .u8 x12, .int .u8 x13, .int .u8 x14, .int .u8 x15] 22)).drewN nq) w2.heap.size 0 [.int .u8 x0, .int .u8 x1, .int .u8 x2, .int .u8 x3, .int .u8 x4, .int .u8 x5, .int .u8 x6, .int .u8 x7, .int .u8 x8, .int .u8 x9, .int .u8 x10, .int .u8 x11, .int .u8 x12, .int .u8 x13, .int .u8 x14, .int .u8 x15] ∧ Below w.heap.size w ((w2.alloc (.cells #[.int .u8 x0, .int .u8 x1, .int .u8 x2, .int .u8 x3, .int .u8 x4, .int .u8 x5, .int .u8 x6, .int .u8 x7, .int .u8 x8, .int .u8 x9, .int .u8 x10, .int .u8 x11, .int .u8 x12, .int .u8 x13, .int .u8 x14, .int .u8 x15] 22)).drewN nq) ∧ w2.heap.size < ((w2.alloc (.cells #[.int .u8 x0, .int .u8 x1, .int .u8 x2, .int .u8 x3, .int .u8 x4, .int .u8 x5, .int .u8 x6, .int .u8 x7, .int .u8 x8, .int .u8 x9, .int .u8 x10, .int .u8 x11, .int .u8 x12, .int .u8 x13, .int .u8 x14, .int .u8 x15] 22)).drewN nq).heap.size) := ⟨H3.out.1, H3.out.2.1, H3.out.2.2.1, H3.out.2.2.2.1, H3.out.2.2.2.2.1, below_drewN H3.out.2.2.2.2.2 _, by simp⟩
  clear H3 l0 l1 l2 l3 l4 l5 l6 l7 HG
  generalize (w2.alloc (.cells #[.int .u8 x0, .int .u8 x1, .int .u8 x2, .int .u8 x3, .int .u8 x4, .int .u8 x5, .int .u8 x6, .int .u8 x7, .int .u8 x8, .int .u8 x9, .int .u8 x10, .int .u8 x11, .int .u8 x12, .int .u8 x13, .int .u8 x14, .int .u8 x15] 22)).drewN nq = w3 at H4 ⊢
  generalize w2.heap.size = A at *
  obtain ⟨hr, hrt, ht, hpl, hax, hbF, hA⟩ := H4.out
  clear H4
  have hph : w.heap.size < w.heap.size + 1 + 1 := by omega
  have hrh : w.heap.size + 1 < w.heap.size + 1 + 1 := by omega
  have hpr : w.heap.size < w.heap.size + 1 := by omega
  have hhA : w.heap.size + 1 + 1 < A := by omega
  generalize w.heap.size + 1 + 1 = hb at *
  generalize w.heap.size + 1 = rb at *
  have hne : cb ≠ hb := by omega
  have hhb : hb < w3.heap.size := by omega
  have hcw : ∀ i, i < 34 → w3.cell? ⟨cb, i, none⟩ = some (fc i) := fun i hi => (hbF.cell (by exact hcb)).trans (HC.out.1 i hi)
  have hz : ∀ i, i < 16 → z16[i]? = some (.int .u8 (([] : List Int).getD i 0)) := by
    intro i hi
    match i, hi with
    | 0, _ | 1, _ | 2, _ | 3, _ | 4, _ | 5, _ | 6, _ | 7, _ | 8, _ | 9, _ | 10, _ | 11, _ | 12, _ | 13, _ | 14, _ | 15, _ => rfl
    | _ + 16, h => omega
  have hdw : ∀ i, i < 16 → w3.cell? ⟨hb, i, none⟩ = some (.int .u8 (([] : List Int).getD i 0)) := fun i hi => by have := hr i _ (hz i hi); rwa [Nat.zero_add] at this
  have hfh : ∀ i, i < 16 → w3.frozen? ⟨hb, i, none⟩ = false := fun i hi => by have := (hrt i hi).2; rwa [Nat.zero_add] at this
  have T0 : Two w3 cb hb fc (fun i => .int .u8 (([] : List Int).getD i 0)) w3 := Two.set w3 cb hb _ _ hcw hdw
  clear hcw hz hr hrt
  have HDW : Hid (∀ i, i < 16 → w3.cell? ⟨hb, i, none⟩ = some (.int .u8 (([] : List Int).getD i 0))) := hdw
  have HFH : Hid (∀ i, i < 16 → w3.frozen? ⟨hb, i, none⟩ = false) := hfh
  have HT0 : Hid (Two w3 cb hb fc (fun i => .int .u8 (([] : List Int).getD i 0)) w3) := T0
  have HPL : Hid (World.rangeAt w3 w.heap.size 0 [.int .u64 (be8 x0 x1 x2 x3 x4 x5 x6 x7), .int .u64 (be8 x8 x9 x10 x11 x12 x13 x14 x15), .pointer z, .int .u16 port]) := hpl
  have HAX : Hid (World.rangeAt w3 A 0 [.int .u8 x0, .int .u8 x1, .int .u8 x2, .int .u8 x3, .int .u8 x4, .int .u8 x5, .int .u8 x6, .int .u8 x7, .int .u8 x8, .int .u8 x9, .int .u8 x10, .int .u8 x11, .int .u8 x12, .int .u8 x13, .int .u8 x14, .int .u8 x15]) := hax
  have HTH : Hid (World.there w3 rb 0 16) := ht
  have HBF : Hid (Below w.heap.size w w3) := hbF
  clear hdw hfh T0 hpl hax ht hbF
  have hh0 := HDW.out 0 (by omega)
  have hh1 := HDW.out 1 (by omega)
  have hf0 := HFH.out 0 (by omega)
  have hf1 := HFH.out 1 (by omega)
  go_wp2_with fail
  have HT4 : Hid (Two w3 cb hb fc (upd (upd (fun i => .int .u8 (([] : List Int).getD i 0)) 0 (.int .u8 0)) 1 (.int .u8 (join % 256))) ((w3.setCell ⟨hb, 0, none⟩ (.int .u8 0)).setCell ⟨hb, 1, none⟩ (.int .u8 (join % 256)))) :=
    (HT0.out.setHd hne 0 (by omega) _).setHd hne 1 (by omega) _
  generalize (w3.setCell ⟨hb, 0, none⟩ (.int .u8 0)).setCell ⟨hb, 1, none⟩ (.int .u8 (join % 256)) = w4 at HT4 ⊢
  clear HT0 hh0 hh1 hf0 hf1
  generalize hf4 : upd (upd (fun i => .int .u8 (([] : List Int).getD i 0)) 0 (.int .u8 0)) 1 (.int .u8 (join % 256)) = f4 at HT4
  have HF4 : Hid (upd (upd (fun i => .int .u8 (([] : List Int).getD i 0)) 0 (.int .u8 0)) 1 (.int .u8 (join % 256)) = f4) := hf4
  clear hf4
  have hpl4 := HT4.out.range (k := w.heap.size) (by omega) (by omega) (by omega) HPL.out
  have p0 := hpl4 0 _ rfl
  have p1 := hpl4 1 _ rfl
  have p2 := hpl4 2 _ rfl
  have p3 := hpl4 3 _ rfl
  simp only [Nat.zero_add] at p0 p1 p2 p3
  clear hpl4
  have hnp : ¬ hb = w.heap.size := by omega
  have n4 : w.heap.size < w4.heap.size := by have := HT4.out.size; omega
  go_region_held3 (fun w' => w'.cell? ⟨w.heap.size, 0, none⟩ = some (.int .u64 (be8 x0 x1 x2 x3 x4 x5 x6 x7)) ∧ w'.cell? ⟨w.heap.size, 1, none⟩ = some (.int .u64 (be8 x8 x9 x10 x11 x12 x13 x14 x15)) ∧ w'.cell? ⟨w.heap.size, 2, none⟩ = some (.pointer z) ∧ w'.cell? ⟨w.heap.size, 3, none⟩ = some (.int .u16 port)) (go_keep)
    (first | (go_at_call 14; refine (port_any _ _ _ _ _).mono ?_; rintro e w' ⟨rfl, rfl⟩) | (go_at_call 13; refine (put16_any hb 2 14 port hp0 hp1 (f4 2) (f4 3) _ ?_ ?_ ?_ ?_).mono ?_; exact ((HT4.out.alloc _).drewN 1).hd 2 (by omega); exact ((HT4.out.alloc _).drewN 1).hd 3 (by omega); exact (((HT4.out.alloc _).drewN 1).froz ⟨hb, 2, none⟩ hhb).trans (HFH.out 2 (by omega)); exact (((HT4.out.alloc _).drewN 1).froz ⟨hb, 3, none⟩ hhb).trans (HFH.out 3 (by omega)); rintro e w' ⟨rfl, rfl⟩))
  have HT5 : Hid (Two w3 cb hb fc (upd (upd f4 2 (.int .u8 (port / 256))) 3 (.int .u8 (port % 256))) (((((w4.alloc (.cells #[.int .u64 (be8 x0 x1 x2 x3 x4 x5 x6 x7), .int .u64 (be8 x8 x9 x10 x11 x12 x13 x14 x15), .pointer z, .int .u16 port] 51)).setCell ⟨hb, 2, none⟩ (.int .u8 (port / 256))).setCell ⟨hb, 3, none⟩ (.int .u8 (port % 256))).alloc (.cells #[] 67)).drew)) :=
    ((((HT4.out.alloc _).setHd hne 2 (by omega) _).setHd hne 3 (by omega) _).alloc _).drewN 1
  generalize ((((w4.alloc (.cells #[.int .u64 (be8 x0 x1 x2 x3 x4 x5 x6 x7), .int .u64 (be8 x8 x9 x10 x11 x12 x13 x14 x15), .pointer z, .int .u16 port] 51)).setCell ⟨hb, 2, none⟩ (.int .u8 (port / 256))).setCell ⟨hb, 3, none⟩ (.int .u8 (port % 256))).alloc (.cells #[] 67)).drew = w5 at HT5 ⊢
  clear p0 p1 p2 p3 n4 HT4
  generalize hf5 : upd (upd f4 2 (.int .u8 (port / 256))) 3 (.int .u8 (port % 256)) = f5 at HT5
  have HF5 : Hid (upd (upd f4 2 (.int .u8 (port / 256))) 3 (.int .u8 (port % 256)) = f5) := hf5
  clear hf5
  have hax5 := HT5.out.range (k := A) (by omega) (by omega) (by omega) HAX.out
  have hcopy : (Builtin.copy_ #[63, 63] 3 #[.slice (some ⟨hb, 4, none⟩) 8 12, .slice (some ⟨A, 8, none⟩) 8 8]).run Ybad.prog w5.drew = .ok (goInt 8) (w5.drew.setCells hb 4 [.int .u8 x8, .int .u8 x9, .int .u8 x10, .int .u8 x11, .int .u8 x12, .int .u8 x13, .int .u8 x14, .int .u8 x15]) := by
    refine run_copy_cells (P := Ybad.prog) w5.drew 63 63 3 5 hb 4 8 12 ⟨A, 8, none⟩ 8 8 [.int .u8 x8, .int .u8 x9, .int .u8 x10, .int .u8 x11, .int .u8 x12, .int .u8 x13, .int .u8 x14, .int .u8 x15] Ybad.underlying63 (by kernel_rfl) rfl (fun j v hv => ?_) (fun j hj => ?_) (fun j hj => ?_) (by simp [Value.oneCell'])
    · rw [Addr.add_mid, Nat.add_comm 8 j]
      have := hax5 (j + 8) v (by simpa using hv)
      rwa [Nat.zero_add] at this
    · have : j < 8 := hj
      have e := (HT5.out.drewN 1).hd (4 + j) (by omega)
      exact (congrArg Option.isSome e).trans rfl
    · have : j < 8 := hj
      exact ((HT5.out.drewN 1).froz ⟨hb, 4 + j, none⟩ hhb).trans (HFH.out _ (by omega))
  clear hax5
  go_wp2
  go_region
  have HT6 : Hid (Two w3 cb hb fc (updL f5 4 [.int .u8 x8, .int .u8 x9, .int .u8 x10, .int .u8 x11, .int .u8 x12, .int .u8 x13, .int .u8 x14, .int .u8 x15]) (w5.drew.setCells hb 4 [.int .u8 x8, .int .u8 x9, .int .u8 x10, .int .u8 x11, .int .u8 x12, .int .u8 x13, .int .u8 x14, .int .u8 x15])) := Two.setHds hne _ 4 _ _ (HT5.out.drewN 1) (by simp)
  generalize w5.drew.setCells hb 4 [.int .u8 x8, .int .u8 x9, .int .u8 x10, .int .u8 x11, .int .u8 x12, .int .u8 x13, .int .u8 x14, .int .u8 x15] = w6 at HT6 ⊢
  clear HT5 hcopy
  rw [← HF5.out, ← HF4.out] at HT6
  clear HF5 HF4
  have hpc := plain_cells join port x8 x9 x10 x11 x12 x13 x14 x15
  generalize hf6 : updL (upd (upd (upd (upd (fun i => .int .u8 (([] : List Int).getD i 0)) 0 (.int .u8 0)) 1 (.int .u8 (join % 256))) 2 (.int .u8 (port / 256))) 3 (.int .u8 (port % 256))) 4 [.int .u8 x8, .int .u8 x9, .int .u8 x10, .int .u8 x11, .int .u8 x12, .int .u8 x13, .int .u8 x14, .int .u8 x15] = f6 at HT6 hpc
  clear hf6
  have hpa := plain_all (join := join) hp0 hp1 h8 h9 h10 h11 h12 h13 h14 h15
  generalize hpn : plainOf join port x8 x9 x10 x11 x12 x13 x14 x15 = pl at hpc hpa
  have HPN : Hid (plainOf join port x8 x9 x10 x11 x12 x13 x14 x15 = pl) := hpn
  have HPC : Hid (∀ i, i < 16 → f6 i = .int .u8 (pl.getD i 0)) := hpc
  clear hpn hpc
  obtain ⟨g1, g2, g3⟩ := HS.out
  have hsbw : sb < w.heap.size := World.block_lt_of_cell? w ⟨sb, 0, none⟩ g1
  have hkbw : kb < w.heap.size := World.block_lt_of_cell? w ⟨kb, 0, none⟩ g3
  have hc0 := HC.out.1 0 (by omega)
  rw [HC.out.2.1 0 (by omega)] at hc0
  have hsc : sb ≠ cb := fun e => by rw [e, hc0] at g1; cases g1
  have hkc : kb ≠ cb := fun e => by rw [e, hc0] at g3; cases g3
  have s1 : ∀ q, (w6.drewN q).cell? ⟨sb, 0, none⟩ = some (.pointer (some ⟨kb, 0, none⟩)) := fun q => ((HT6.out.cell (by have := HBF.out.size; omega) hsc (by omega) 0).trans (HBF.out.cell (by exact hsbw))).trans g1
  have s2 : ∀ q, (w6.drewN q).shape? kb = some (31, 2) := fun q => by
    have e1 := HT6.out.shape (k := kb) (by have := HBF.out.size; omega) hkc (by omega)
    have e2 : w3.shape? kb = w.shape? kb := by unfold World.shape?; rw [HBF.out.block kb hkbw]
    exact (e1.trans e2).trans g2
  have s3 : w6.cell? ⟨kb, 0, none⟩ = some (.iface 24 (.pointer (some ⟨cb, 0, none⟩))) := ((HT6.out.cell (by have := HBF.out.size; omega) hkc (by omega) 0).trans (HBF.out.cell (by exact hkbw))).trans g3
  have S1 : Hid (∀ q, (w6.drewN q).cell? ⟨sb, 0, none⟩ = some (.pointer (some ⟨kb, 0, none⟩))) := s1
  have S2 : Hid (∀ q, (w6.drewN q).shape? kb = some (31, 2)) := s2
  clear s1 s2 g1 g2 g3 hc0
  have hnk : ¬ hb = kb := by omega
  have hkh : kb ≠ hb := by omega
  have hm : ∀ w : World, (method 194 24 (.pointer (some ⟨cb, 0, none⟩)) "Encrypt").run Ybad.prog w = .ok (33, .pointer (some ⟨cb, 0, none⟩)) w := fun _ => by kernel_rfl
  have Q1 : Hid (∀ i, i < 16 → w6.drew.cell? ⟨hb, i, none⟩ = some (.int .u8 (pl.getD i 0))) := fun i hi => ((HT6.out.drewN 1).hd i hi).trans (congrArg some (HPC.out i hi))
  have Q2 : Hid (∀ i, w6.drew.frozen? ⟨cb, i, none⟩ = false) := fun i => (((HT6.out.drewN 1).froz ⟨cb, i, none⟩ (by have := HBF.out.size; show cb < w3.heap.size; omega)).trans (HBF.out.frozen (by exact hcb))).trans (HC.out.2.2.2 i)
  have Q3 : Hid (∀ i, i < 16 → w6.drew.frozen? ⟨hb, i, none⟩ = false) := fun i hi => ((HT6.out.drewN 1).froz ⟨hb, i, none⟩ (by exact hhb)).trans (HFH.out i hi)
  go_wp2
  go_region_held3 (fun w' => w'.cell? ⟨kb, 0, none⟩ = some (.iface 24 (.pointer (some ⟨cb, 0, none⟩)))) (go_keep)
    (first | (go_at_call 8; refine (load_any sb kb _ ?_ ?_).mono ?_; exact S1.out 1; exact S2.out 1; rintro e w' ⟨rfl, rfl⟩) | (go_at_call 33; refine (enc_any cb hb ks pl fc _ hne hks hpa ?_ HC.out.2.1 HC.out.2.2.1 ?_ ?_ ?_).mono ?_; exact (HT6.out.drewN 1).cur; exact Q1.out; exact Q2.out; exact Q3.out; rintro e w7 ⟨rfl, fc7, fh7, hT7, a1, a2, a3, a4, a5⟩; have s7 := (hT7.cell (k := kb) (by have := HBF.out.size; have := HT6.out.size; show kb < w6.heap.size; omega) hkc hkh 0).trans s3))
  have T7 : Two w3 cb hb fc7 fh7 w7 := (HT6.out.drewN 1).trans hT7
  have R1 : Hid (World.rangeAt w7 hb 0 ((xorL pl ks).map (Value.int .u8))) := xorL_range T7.hd a5
  have R2 : Hid (World.there w7 rb 0 ((xorL pl ks).map (Value.int .u8)).toArray.size) := by
    have e : ((xorL pl ks).map (Value.int .u8)).toArray.size = 16 := by simp [xorL_len]
    unfold Hid
    rw [e]
    exact T7.thereAt (by omega) (by omega) (by omega) HTH.out
  have R3 : Hid ((Ybad.prog.info? 22).map (·.size) = some ((xorL pl ks).map (Value.int .u8)).length) := by
    unfold Hid
    rw [List.length_map, xorL_len]; exact info22
  have R4 : Hid ((Ybad.prog.info? 22).map (·.size) = some ((xorL pl ks).map (Value.int .u8)).toArray.size) := R3
  have HA : Hid ((∀ i, i < 16 → fc7 i = .int .u8 (ks.getD i 0)) ∧ fc7 16 = .int .i64 1 ∧ fc7 17 = fc 17 ∧ (∀ i, i < 16 → fc7 (18 + i) = .int .u8 (pl.getD i 0))) := ⟨a1, a2, a3, a4⟩
  have HONE : Hid (One w cb fc7 (w7.setCells rb 0 ((xorL pl ks).map (Value.int .u8)))) := by
    have bb : Below w.heap.size w7 (w7.setCells rb 0 ((xorL pl ks).map (Value.int .u8))) := below_setCells rb (by omega) _ _ _ (Below.refl _ _)
    have hsz := HBF.out.size
    exact ⟨fun i hi => (bb.cell (by exact hcb)).trans (T7.cur i hi), bb.os.trans (T7.os.trans HBF.out.os), bb.tape.trans (T7.tape.trans HBF.out.tape), bb.output.trans (T7.output.trans HBF.out.output), Nat.le_trans hsz (Nat.le_trans T7.size bb.size),
      fun k h0 h1 => (bb.block k h0).trans ((T7.block k (by omega) h1 (by omega)).trans (HBF.out.block k h0))⟩
  clear T7 hT7 a1 a2 a3 a4 a5 s7 s3 hm
  generalize hcs : (xorL pl ks).map (Value.int .u8) = cs at R1 R2 R3 R4 HONE
  have HCS : Hid ((xorL pl ks).map (Value.int .u8) = cs) := hcs
  have HL : Hid (cs.length = 16) := by rw [← hcs, List.length_map, xorL_len]; exact rfl
  have HO : Hid (cs.toArray.all (·.oneCell') = true) := by rw [← hcs]; exact xorL_one pl ks
  clear hcs
  go_wp2_with (first | (refine wpList_load_mid rfl 22 _ rfl hb 0 rfl cs _ (by exact R1.out) Ybad.underlying22 rfl R3.out ?_) | (refine wpList_store_mid rfl 22 _ _ rfl rb 0 cs.toArray rfl rfl (by exact R2.out) R4.out HO.out ?_))
  refine bodyPost_ret (res7 (cs := cs) rfl rfl (World.rangeAt_setCells_same _ _ _ _ (by exact R2.out)) HL.out) rfl ⟨?_, fc7, HONE.out, ?_⟩
  · rw [HPN.out, HCS.out]; rfl
  · rw [HPN.out]; exact HA.out
end Go.Proofs.YbulkedcqDoor
