import Derived.Test.YbulkedgyPos
namespace Go.Proofs.Ybulkedgy
open Go.RowKit

theorem ne_off {b i j : Nat} (h : i ≠ j) : (⟨b, j, none⟩ : Addr) ≠ ⟨b, i, none⟩ := fun e => h (congrArg Addr.off e).symm
theorem ne_block {b c i j : Nat} (h : b ≠ c) : (⟨b, j, none⟩ : Addr) ≠ ⟨c, i, none⟩ := fun e => h (congrArg Addr.block e)

def upd (f : Nat → Value) (j : Nat) (v : Value) : Nat → Value := fun i => if i = j then v else f i

/-- Of the world 'w' the block 'sb' alone may have turned: its twelve cells hold 'f'. -/
structure One (w : World) (sb : Nat) (f : Nat → Value) (w' : World) : Prop where
  cur : ∀ i, i < 12 → w'.cell? ⟨sb, i, none⟩ = some (f i)
  froz : ∀ a : Addr, a.block < w.heap.size → w'.frozen? a = w.frozen? a
  os : w'.os = w.os
  tape : w'.tape = w.tape
  output : w'.output = w.output
  size : w.heap.size ≤ w'.heap.size
  block : ∀ k, k < w.heap.size → k ≠ sb → w'.heap[k]? = w.heap[k]?

theorem One.refl {w : World} {sb : Nat} {f : Nat → Value} (h : ∀ i, i < 12 → w.cell? ⟨sb, i, none⟩ = some (f i)) : One w sb f w :=
  ⟨h, fun _ _ => rfl, rfl, rfl, rfl, Nat.le_refl _, fun _ _ _ => rfl⟩

theorem One.set {w w' : World} {sb : Nat} {f : Nat → Value} (h : One w sb f w') (j : Nat) (hj : j < 12) (v : Value) : One w sb (upd f j v) (w'.setCell ⟨sb, j, none⟩ v) := by
  refine ⟨fun i hi => ?_, fun a ha => ?_, h.os, h.tape, h.output, by simp [World.setCell, h.size], fun k h0 h1 => ?_⟩
  · by_cases e : i = j
    · subst e; rw [World.cell?_setCell_same _ _ _ (h.cur i hi)]; simp [upd]
    · rw [World.cell?_setCell_other _ _ _ _ (ne_off e), h.cur i hi]; simp [upd, e]
  · rw [World.frozen?_setCell]; exact h.froz a ha
  · rw [Below.heap_setCell _ _ _ _ h1]; exact h.block k h0 h1

theorem One.later {w w1 w2 : World} {sb : Nat} {f : Nat → Value} (h : One w sb f w1) (b : Below w1.heap.size w1 w2) : One w sb f w2 := by
  have hsb : sb < w1.heap.size := World.block_lt_of_cell? w1 ⟨sb, 0, none⟩ (h.cur 0 (by omega))
  have hs := h.size
  exact ⟨fun i hi => (b.cell (by exact hsb)).trans (h.cur i hi), fun a ha => (b.frozen (by omega)).trans (h.froz a ha), b.os.trans h.os, b.tape.trans h.tape, b.output.trans h.output, Nat.le_trans h.size b.size,
    fun k h0 h1 => (b.block k (by omega)).trans (h.block k h0 h1)⟩

theorem One.drewN {w w' : World} {sb : Nat} {f : Nat → Value} (h : One w sb f w') (q : Nat) : One w sb f (w'.drewN q) :=
  ⟨h.cur, h.froz, h.os, h.tape, h.output, h.size, h.block⟩

theorem One.cell {w w' : World} {sb : Nat} {f : Nat → Value} (h : One w sb f w') {mb i : Nat} {v : Value} (hne : mb ≠ sb) (c : w.cell? ⟨mb, i, none⟩ = some v) : w'.cell? ⟨mb, i, none⟩ = some v := by
  have hlt : mb < w.heap.size := World.block_lt_of_cell? w ⟨mb, i, none⟩ c
  rw [← c]
  simp only [World.cell?, h.block mb hlt hne]

theorem below_new47 (w : World) (q : Nat) : Below w.heap.size w ((w.alloc (.cells #[] 47)).drewN q) := below_drewN ((Below.refl _ _).alloc (Nat.le_refl _) _) _

theorem Hid.mk' {p : Prop} (h : p) : Hid p := h

theorem and3 {a : Int} (h : IsB a) : bits .and .u8 a 3 = a % 4 := by
  obtain ⟨h0, h1⟩ := h
  unfold bits
  have e : (BitVec.ofInt 8 a &&& BitVec.ofInt 8 3).toNat = (a % 256).toNat % 4 := by
    rw [BitVec.toNat_and, BitVec.toNat_ofInt]
    exact Nat.and_two_pow_sub_one_eq_mod _ 2
  show IntKind.u8.wrap ((BitVec.ofInt 8 a &&& BitVec.ofInt 8 3).toNat : Int) = _
  rw [e, IntKind.wrap_u8]
  omega
theorem and15 {a : Int} (h : IsB a) : bits .and .u8 a 15 = a % 16 := by
  obtain ⟨h0, h1⟩ := h
  unfold bits
  have e : (BitVec.ofInt 8 a &&& BitVec.ofInt 8 15).toNat = (a % 256).toNat % 16 := by
    rw [BitVec.toNat_and, BitVec.toNat_ofInt]
    exact Nat.and_two_pow_sub_one_eq_mod _ 4
  show IntKind.u8.wrap ((BitVec.ofInt 8 a &&& BitVec.ofInt 8 15).toNat : Int) = _
  rw [e, IntKind.wrap_u8]
  omega
theorem le2_bounds {a b : Int} (ha : IsB a) (hb : IsB b) : 0 ≤ le2 a b ∧ le2 a b < 65536 := by
  obtain ⟨a0, a1⟩ := ha
  obtain ⟨b0, b1⟩ := hb
  unfold le2
  omega
theorem One.frozen {w w' : World} {sb : Nat} {f : Nat → Value} (h : One w sb f w') (hsb : sb < w.heap.size) {i : Nat} (hf : w.frozen? ⟨sb, i, none⟩ = false) : w'.frozen? ⟨sb, i, none⟩ = false := (h.froz _ hsb).trans hf
theorem One.some {w w' : World} {sb : Nat} {f : Nat → Value} (h : One w sb f w') (i : Nat) (hi : i < 12) : ∃ u, w'.cell? ⟨sb, i, none⟩ = some u := ⟨_, h.cur i hi⟩

theorem upd_get (f : Nat → Value) (j : Nat) (v : Value) (i : Nat) : upd f j v i = if i = j then v else f i := rfl

attribute [local irreducible] deg4 le2 le4 upd

set_option maxHeartbeats 3200000 in
set_option maxRecDepth 100000 in
theorem sys_any (mb sb : Nat) (x : Nat → Int) (f : Nat → Value) (w : World) (hne : mb ≠ sb) (hx : ∀ i, IsB (x i)) (hm : ∀ i, i < 25 → w.cell? ⟨mb, i, none⟩ = some (.int .u8 (x i)))
    (hs : ∀ i, i < 12 → w.cell? ⟨sb, i, none⟩ = some (f i)) (hf : ∀ i, w.frozen? ⟨sb, i, none⟩ = false) :
    Calls Yba.prog 7 #[.pointer (some ⟨mb, 0, none⟩), .pointer (some ⟨sb, 0, none⟩)] w fun e w' => e = .returned (.tuple #[]) ∧ ∃ F, One w sb F w' ∧
      F 0 = .int .u8 (x 1 / 4 % 8) ∧ F 1 = .int .u8 (x 1 % 4) ∧ F 2 = .float .f64 (deg4 (x 2) (x 3) (x 4) (x 5)) ∧ F 3 = .float .f64 (deg4 (x 6) (x 7) (x 8) (x 9)) ∧
      F 4 = .int .u16 (le2 (x 18) (x 19)) ∧ F 5 = .int .i64 (le2 (x 10) (x 11)) ∧ F 6 = .int .i64 (x 12 * 10) ∧ F 7 = .int .u16 (le2 (x 13) (x 14)) ∧ F 8 = .int .u16 (le2 (x 15) (x 16)) ∧
      F 9 = .int .u8 (x 17 / 16) ∧ F 10 = .int .u8 (x 17 % 16) ∧ F 11 = .int .u32 (le4 (x 20) (x 21) (x 22) (x 23)) := by
  have HSB : Hid (sb < w.heap.size) := World.block_lt_of_cell? w ⟨sb, 0, none⟩ (hs 0 (by omega))
  have O0 : Hid (One w sb f w) := One.refl hs
  have HM : Hid (∀ i, i < 25 → w.cell? ⟨mb, i, none⟩ = some (.int .u8 (x i))) := hm
  have HF : Hid (∀ i, w.frozen? ⟨sb, i, none⟩ = false) := hf
  have HX : Hid (∀ i, IsB (x i)) := hx
  have HNE : Hid (mb ≠ sb) := hne
  have s0 := hs 0 (by omega)
  have s1 := hs 1 (by omega)
  have f0 := hf 0
  have f1 := hf 1
  have m1 := hm 1 (by omega)
  have y1 := hx 1
  have y1a : 0 ≤ x 1 := y1.1
  have y1b : x 1 < 256 := y1.2
  have a1 : bits .and .u8 (x 1) 3 = x 1 % 4 := and3 y1
  clear hm hs hf hx y1
  go_enter Yba.func7, Yba.ntmps7
  go_wp2_with fail
  have O1 : Hid (One w sb _ ((w.setCell ⟨sb, 0, none⟩ (.int .u8 (x 1 / 4 % 8))).setCell ⟨sb, 1, none⟩ (.int .u8 (x 1 % 4)))) := (O0.out.set 0 (by omega) _).set 1 (by omega) _
  clear s0 s1 f0 f1 m1
  generalize ((w.setCell ⟨sb, 0, none⟩ (.int .u8 (x 1 / 4 % 8))).setCell ⟨sb, 1, none⟩ (.int .u8 (x 1 % 4))) = w1 at O1 ⊢
  refine (pos_any mb 2 (x 2) (x 3) (x 4) (x 5) (x 6) (x 7) (x 8) (x 9) (HX.out _) (HX.out _) (HX.out _) (HX.out _) (HX.out _) (HX.out _) (HX.out _) (HX.out _) w1 (O1.out.cell HNE.out (HM.out 2 (by omega))) (O1.out.cell HNE.out (HM.out 3 (by omega))) (O1.out.cell HNE.out (HM.out 4 (by omega))) (O1.out.cell HNE.out (HM.out 5 (by omega))) (O1.out.cell HNE.out (HM.out 6 (by omega))) (O1.out.cell HNE.out (HM.out 7 (by omega))) (O1.out.cell HNE.out (HM.out 8 (by omega))) (O1.out.cell HNE.out (HM.out 9 (by omega)))).mono ?_
  rintro e w2 ⟨rfl, hb2⟩
  dsimp only
  have O2 := Hid.mk' (O1.out.later hb2)
  obtain ⟨u2, s2⟩ := O2.out.some 2 (by omega)
  obtain ⟨u3, s3⟩ := O2.out.some 3 (by omega)
  have g2 := O2.out.frozen HSB.out (HF.out 2)
  have g3 := O2.out.frozen HSB.out (HF.out 3)
  clear hb2
  go_wp2_with fail
  have O3 := Hid.mk' ((O2.out.set 2 (by omega) (.float .f64 (deg4 (x 2) (x 3) (x 4) (x 5)))).set 3 (by omega) (.float .f64 (deg4 (x 6) (x 7) (x 8) (x 9))))
  clear s2 s3 g2 g3
  generalize ((w2.setCell ⟨sb, 2, none⟩ (.float .f64 (deg4 (x 2) (x 3) (x 4) (x 5)))).setCell ⟨sb, 3, none⟩ (.float .f64 (deg4 (x 6) (x 7) (x 8) (x 9)))) = w3 at O3 ⊢
  refine (alt_any mb 18 2 7 (x 18) (x 19) (HX.out _) (HX.out _) w3 (by omega) (O3.out.cell HNE.out (HM.out 18 (by omega))) (O3.out.cell HNE.out (HM.out 19 (by omega)))).mono ?_
  rintro e w4 ⟨rfl, hw4⟩
  dsimp only
  have O4 := Hid.mk' (O3.out.later (hw4 ▸ below_new47 w3 1))
  clear hw4
  obtain ⟨u4, s4⟩ := O4.out.some 4 (by omega)
  have g4 := O4.out.frozen HSB.out (HF.out 4)
  go_wp2_with fail
  have O5 := Hid.mk' (O4.out.set 4 (by omega) (.int .u16 (le2 (x 18) (x 19))))
  clear s4 g4
  generalize (w4.setCell ⟨sb, 4, none⟩ (.int .u16 (le2 (x 18) (x 19)))) = w5 at O5 ⊢
  have H12 := Hid.mk' (u16_any mb 10 2 15 (x 10) (x 11) (HX.out _) (HX.out _) w5.drew (by omega) (O5.out.cell HNE.out (HM.out 10 (by omega))) (O5.out.cell HNE.out (HM.out 11 (by omega))))
  have O6 := Hid.mk' (O5.out.later (below_new47 w5 2))
  have H12' : Hid (Calls Yba.prog 12 #[.agg #[], .slice (some ⟨mb, 10, none⟩) 2 15] w5.drew fun e w' => e = .returned (.int .u16 (le2 (x 10) (x 11))) ∧ w' = (w5.alloc (.cells #[] 47)).drewN 2) := H12.out
  clear H12
  generalize (w5.alloc (.cells #[] 47)).drewN 2 = w6 at O6 H12'
  obtain ⟨u5, s5⟩ := O6.out.some 5 (by omega)
  have g5 := O6.out.frozen HSB.out (HF.out 5)
  have hwl : IntKind.i64.wrap (le2 (x 10) (x 11)) = le2 (x 10) (x 11) := by
    have := le2_bounds (HX.out 10) (HX.out 11)
    rw [IntKind.wrap_i64]; omega
  go_region_held3 (fun _ => True) (trivial)
    (first | (go_at_call 12; with_reducible refine H12'.out.mono ?_; rintro e w' ⟨rfl, rfl⟩; dsimp only))
  have O7 := Hid.mk' (O6.out.set 5 (by omega) (.int .i64 (le2 (x 10) (x 11))))
  clear s5 g5 H12' hwl
  generalize (w'.setCell ⟨sb, 5, none⟩ (.int .i64 (le2 (x 10) (x 11)))) = w7 at O7 ⊢
  obtain ⟨u6, s6⟩ := O7.out.some 6 (by omega)
  have g6 := O7.out.frozen HSB.out (HF.out 6)
  have m12 := (O7.out.cell HNE.out (HM.out 12 (by omega)))
  have y12a := (HX.out 12).1
  have y12b := (HX.out 12).2
  go_wp2_with fail
  have O8 := Hid.mk' (O7.out.set 6 (by omega) (.int .i64 (x 12 * 10)))
  clear s6 g6 m12
  generalize (w7.setCell ⟨sb, 6, none⟩ (.int .i64 (x 12 * 10))) = w8 at O8 ⊢
  refine (alt_any mb 13 2 12 (x 13) (x 14) (HX.out _) (HX.out _) w8 (by omega) (O8.out.cell HNE.out (HM.out 13 (by omega))) (O8.out.cell HNE.out (HM.out 14 (by omega)))).mono ?_
  rintro e w9 ⟨rfl, hw9⟩
  dsimp only
  have O9 := Hid.mk' (O8.out.later (hw9 ▸ below_new47 w8 1))
  clear hw9
  obtain ⟨u7, s7⟩ := O9.out.some 7 (by omega)
  have g7 := O9.out.frozen HSB.out (HF.out 7)
  go_wp2_with fail
  have O10 := Hid.mk' (O9.out.set 7 (by omega) (.int .u16 (le2 (x 13) (x 14))))
  clear s7 g7
  generalize (w9.setCell ⟨sb, 7, none⟩ (.int .u16 (le2 (x 13) (x 14)))) = w10 at O10 ⊢
  refine (alt_any mb 15 2 10 (x 15) (x 16) (HX.out _) (HX.out _) w10 (by omega) (O10.out.cell HNE.out (HM.out 15 (by omega))) (O10.out.cell HNE.out (HM.out 16 (by omega)))).mono ?_
  rintro e w11 ⟨rfl, hw11⟩
  dsimp only
  have O11 := Hid.mk' (O10.out.later (hw11 ▸ below_new47 w10 1))
  clear hw11
  obtain ⟨u8, s8⟩ := O11.out.some 8 (by omega)
  obtain ⟨u9, s9⟩ := O11.out.some 9 (by omega)
  obtain ⟨u10, s10⟩ := O11.out.some 10 (by omega)
  have g8 := O11.out.frozen HSB.out (HF.out 8)
  have g9 := O11.out.frozen HSB.out (HF.out 9)
  have g10 := O11.out.frozen HSB.out (HF.out 10)
  have m17 := (O11.out.cell HNE.out (HM.out 17 (by omega)))
  have y17a := (HX.out 17).1
  have y17b := (HX.out 17).2
  have a17 := and15 (HX.out 17)
  go_wp2_with fail
  have O12 := Hid.mk' (((O11.out.set 8 (by omega) (.int .u16 (le2 (x 15) (x 16)))).set 9 (by omega) (.int .u8 (x 17 / 16))).set 10 (by omega) (.int .u8 (x 17 % 16)))
  clear s8 s9 s10 g8 g9 g10 m17
  generalize (((w11.setCell ⟨sb, 8, none⟩ (.int .u16 (le2 (x 15) (x 16)))).setCell ⟨sb, 9, none⟩ (.int .u8 (x 17 / 16))).setCell ⟨sb, 10, none⟩ (.int .u8 (x 17 % 16))) = w12 at O12 ⊢
  refine (ts_any mb 20 4 5 (x 20) (x 21) (x 22) (x 23) (HX.out _) (HX.out _) (HX.out _) (HX.out _) w12 (by omega) (O12.out.cell HNE.out (HM.out 20 (by omega))) (O12.out.cell HNE.out (HM.out 21 (by omega))) (O12.out.cell HNE.out (HM.out 22 (by omega))) (O12.out.cell HNE.out (HM.out 23 (by omega)))).mono ?_
  rintro e w13 ⟨rfl, hw13⟩
  dsimp only
  have O13 := Hid.mk' (O12.out.later (hw13 ▸ below_new47 w12 1))
  clear hw13
  obtain ⟨u11, s11⟩ := O13.out.some 11 (by omega)
  have g11 := O13.out.frozen HSB.out (HF.out 11)
  go_wp2
  have O14 := Hid.mk' (O13.out.set 11 (by omega) (.int .u32 (le4 (x 20) (x 21) (x 22) (x 23))))
  go_end0
  refine ⟨rfl, _, O14.out, ?_, ?_, ?_, ?_, ?_, ?_, ?_, ?_, ?_, ?_, ?_, ?_⟩ <;> simp [upd_get]
end Go.Proofs.Ybulkedgy
