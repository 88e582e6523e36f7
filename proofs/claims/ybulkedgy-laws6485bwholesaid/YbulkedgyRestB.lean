import Derived.Test.YbulkedgyRestC
namespace Go.Proofs.Ybulkedgy
open Go.RowKit

def headC : Code → Code
  | .seq a _ => a
  | c => c
def tailC : Code → Code
  | .seq _ b => b
  | c => c

theorem keep2 {w : World} {rb wb i ja jb : Nat} {v a b : Value} (hne : rb ≠ wb) (h : w.cell? ⟨rb, i, none⟩ = some v) : ((w.setCell ⟨wb, ja, none⟩ a).setCell ⟨wb, jb, none⟩ b).drew.cell? ⟨rb, i, none⟩ = some v := by
  show ((w.setCell ⟨wb, ja, none⟩ a).setCell ⟨wb, jb, none⟩ b).cell? ⟨rb, i, none⟩ = some v
  rw [World.cell?_setCell_other _ _ _ _ (ne_block hne.symm), World.cell?_setCell_other _ _ _ _ (ne_block hne.symm), h]

theorem keepAll {w : World} {rb wb : Nat} {x : Nat → Int} {a b : Value} (hne : rb ≠ wb) (h : w.cell? ⟨rb, 2, none⟩ = some (.int .u8 (x 2)) ∧ w.cell? ⟨rb, 3, none⟩ = some (.int .u8 (x 3)) ∧ w.cell? ⟨rb, 4, none⟩ = some (.int .u8 (x 4)) ∧ w.cell? ⟨rb, 5, none⟩ = some (.int .u8 (x 5)) ∧ w.cell? ⟨rb, 6, none⟩ = some (.int .u8 (x 6)) ∧ w.cell? ⟨rb, 7, none⟩ = some (.int .u8 (x 7)) ∧ w.cell? ⟨rb, 8, none⟩ = some (.int .u8 (x 8)) ∧ w.cell? ⟨rb, 9, none⟩ = some (.int .u8 (x 9))) : ((w.setCell ⟨wb, 2, none⟩ a).setCell ⟨wb, 3, none⟩ b).drew.cell? ⟨rb, 2, none⟩ = some (.int .u8 (x 2)) ∧ ((w.setCell ⟨wb, 2, none⟩ a).setCell ⟨wb, 3, none⟩ b).drew.cell? ⟨rb, 3, none⟩ = some (.int .u8 (x 3)) ∧ ((w.setCell ⟨wb, 2, none⟩ a).setCell ⟨wb, 3, none⟩ b).drew.cell? ⟨rb, 4, none⟩ = some (.int .u8 (x 4)) ∧ ((w.setCell ⟨wb, 2, none⟩ a).setCell ⟨wb, 3, none⟩ b).drew.cell? ⟨rb, 5, none⟩ = some (.int .u8 (x 5)) ∧ ((w.setCell ⟨wb, 2, none⟩ a).setCell ⟨wb, 3, none⟩ b).drew.cell? ⟨rb, 6, none⟩ = some (.int .u8 (x 6)) ∧ ((w.setCell ⟨wb, 2, none⟩ a).setCell ⟨wb, 3, none⟩ b).drew.cell? ⟨rb, 7, none⟩ = some (.int .u8 (x 7)) ∧ ((w.setCell ⟨wb, 2, none⟩ a).setCell ⟨wb, 3, none⟩ b).drew.cell? ⟨rb, 8, none⟩ = some (.int .u8 (x 8)) ∧ ((w.setCell ⟨wb, 2, none⟩ a).setCell ⟨wb, 3, none⟩ b).drew.cell? ⟨rb, 9, none⟩ = some (.int .u8 (x 9)) :=
  ⟨keep2 hne h.1, keep2 hne h.2.1, keep2 hne h.2.2.1, keep2 hne h.2.2.2.1, keep2 hne h.2.2.2.2.1, keep2 hne h.2.2.2.2.2.1, keep2 hne h.2.2.2.2.2.2.1, keep2 hne h.2.2.2.2.2.2.2⟩

theorem hide_rest {P : Program} {C : Code} {Q' : Exit → Act → World → Prop} {K : Act → World → Prop} (h : ∀ a w, Code.wp P C Q' a w → K a w) : ∃ C', Hid (C' = C) ∧ Hid (∀ a w, Code.wp P C' Q' a w → K a w) := ⟨C, Hid.mk' rfl, Hid.mk' h⟩

theorem deg4_is (a b c d : Int) : deg4 a b c d = degrees (IntKind.i32.wrap (le4 a b c d)) := rfl

theorem have_quo (A : Int) : ∃ D, Hid (D = degrees (IntKind.i32.wrap A)) ∧ ∀ w, Sem.run Yba.prog (binOp .quo 29 (.float .f64 (floatOfInt .f64 (IntKind.i32.wrap A))) (.float .f64 4711630319722168320)) w = .ok (.float .f64 D) w :=
  ⟨_, Hid.mk' rfl, quo_run (IntKind.i32.wrap A)⟩

attribute [local irreducible] degrees floatOfInt deg4 le2 le4 upd

set_option maxHeartbeats 3200000 in
set_option maxRecDepth 100000 in
theorem lawB_rest (x : Nat → Int) (rb sb wb : Nat) (v w7 : World) (hx : ∀ i, IsB (x i)) (hm : ∀ i, i < 25 → w7.cell? ⟨rb, i, none⟩ = some (.int .u8 (x i))) (hne : rb ≠ wb) (hne2 : sb ≠ wb) (hL : w7.rangeAt sb 0 (sysL x))
    (f : Nat → Value) (hs : ∀ i, i < 12 → w7.cell? ⟨wb, i, none⟩ = some (f i)) (hf : ∀ i, w7.frozen? ⟨wb, i, none⟩ = false) (hB : Below v.heap.size v w7) (hwb : v.heap.size ≤ wb)
    (Q' : Exit → Act → World → Prop) (K8 : Act → World → Prop) (hQ : ∀ e a w, bodyPost Yba.prog Yba.f4 (fun e w' => e = .returned (.bool true) ∧ Below v.heap.size v w') e a w → Q' e a w) (hK8 : ∀ a w, Code.wp Yba.prog (tailC ((Yba.f4.body.bind (fromR 8)).getD .skip)) Q' a w → K8 a w)
    (c0 c1 c3 c4 c5 c6 c9 c10 c11 c12 c13 c14 c15 c16 c17 c18 c19 c20 c21 c22 c23 c24 c25 c26 c27 c28 c29 c30 c31 c32 c33 c34 c35 c36 c37 c38 c39 c40 c41 c42 c43 c44 c45 c46 c47 c48 c49 c50 c51 c52 c53 c54 c55 c56 c57 c58 c59 c60 c61 c62 c63 c64 c65 c66 c67 c68 c69 c70 c71 c72 c73 c74 c75 c76 c77 c78 c79 c80 c81 c82 c83 c84 c85 c86 c87 c88 c89 c90 c91 c92 c93 c94 c95 c96 c97 c98 c99 c100 c101 : Value) :
    Code.wp Yba.prog (headC ((Yba.f4.body.bind (fromR 8)).getD .skip)) (Exit.then K8 Q') ⟨#[c0, c1, .pointer (some ⟨rb, 0, none⟩), c3, c4, c5, c6, .pointer (some ⟨sb, 0, none⟩), .pointer (some ⟨wb, 0, none⟩), c9, c10, c11, c12, c13, c14, c15, c16, c17, c18, c19, c20, c21, c22, c23, c24, c25, c26, c27, c28, c29, c30, c31, c32, c33, c34, c35, c36, c37, c38, c39, c40, c41, c42, c43, c44, c45, c46, c47, c48, c49, c50, c51, c52, c53, c54, c55, c56, c57, c58, c59, c60, c61, c62, c63, c64, c65, c66, c67, c68, c69, c70, c71, c72, c73, c74, c75, c76, c77, c78, c79, c80, c81, c82, c83, c84, c85, c86, c87, c88, c89, c90, c91, c92, c93, c94, c95, c96, c97, c98, c99, c100, c101], []⟩ w7 := by
  have HWB : Hid (wb < w7.heap.size) := World.block_lt_of_cell? w7 ⟨wb, 0, none⟩ (hs 0 (by omega))
  have O0 : Hid (One w7 wb f w7) := One.refl hs
  have HM : Hid (∀ i, i < 25 → w7.cell? ⟨rb, i, none⟩ = some (.int .u8 (x i))) := hm
  have HF : Hid (∀ i, w7.frozen? ⟨wb, i, none⟩ = false) := hf
  have HX : Hid (∀ i, IsB (x i)) := hx
  have HNE : Hid (rb ≠ wb) := hne
  have s0 := hs 0 (by omega)
  have s1 := hs 1 (by omega)
  have f0 := hf 0
  have f1 := hf 1
  have m1 := hm 1 (by omega)
  have y1a : 0 ≤ x 1 := (hx 1).1
  have y1b : x 1 < 256 := (hx 1).2
  have HL : Hid (w7.rangeAt sb 0 (sysL x)) := hL
  have HB : Hid (Below v.heap.size v w7) := hB
  clear hm hs hf hx hL hB
  have HQ := Hid.mk' hQ
  clear hQ
  generalize hC9 : tailC ((Yba.f4.body.bind (fromR 8)).getD .skip) = C9 at hK8
  conv at hC9 => lhs; whnf
  subst hC9
  conv => arg 2; whnf
  go_wp2_with fail
  have O1 := Hid.mk' ((O0.out.set 0 (by omega) (.int .u8 (x 1 / 4 % 8))).set 1 (by omega) (.int .u8 (x 1 % 4)))
  clear s0 s1 f0 f1 m1
  generalize ((w7.setCell ⟨wb, 0, none⟩ (.int .u8 (x 1 / 4 % 8))).setCell ⟨wb, 1, none⟩ (.int .u8 (x 1 % 4))) = w8 at O1 ⊢
  have m2 := (O1.out.cell HNE.out (HM.out 2 (by omega)))
  have m3 := (O1.out.cell HNE.out (HM.out 3 (by omega)))
  have m4 := (O1.out.cell HNE.out (HM.out 4 (by omega)))
  have m5 := (O1.out.cell HNE.out (HM.out 5 (by omega)))
  have m6 := (O1.out.cell HNE.out (HM.out 6 (by omega)))
  have m7 := (O1.out.cell HNE.out (HM.out 7 (by omega)))
  have m8 := (O1.out.cell HNE.out (HM.out 8 (by omega)))
  have m9 := (O1.out.cell HNE.out (HM.out 9 (by omega)))
  obtain ⟨u2, s2⟩ := O1.out.some 2 (by omega)
  obtain ⟨u3, s3⟩ := O1.out.some 3 (by omega)
  have g2 := O1.out.frozen HWB.out (HF.out 2)
  have g3 := O1.out.frozen HWB.out (HF.out 3)
  obtain ⟨A, HA, cA⟩ := have8 (x 2) (x 3) (x 4) (x 5) (HX.out _) (HX.out _) (HX.out _) (HX.out _)
  obtain ⟨B, HB8, cB⟩ := have8 (x 6) (x 7) (x 8) (x 9) (HX.out _) (HX.out _) (HX.out _) (HX.out _)
  obtain ⟨DA, HDA, hq1⟩ := have_quo A
  obtain ⟨DB, HDB, hq2⟩ := have_quo B
  rename_i K hK
  obtain ⟨R, HR, HK⟩ := hide_rest hK
  clear hK
  go_region_held3 (fun w' => w'.cell? ⟨rb, 2, none⟩ = some (.int .u8 (x 2)) ∧ w'.cell? ⟨rb, 3, none⟩ = some (.int .u8 (x 3)) ∧ w'.cell? ⟨rb, 4, none⟩ = some (.int .u8 (x 4)) ∧ w'.cell? ⟨rb, 5, none⟩ = some (.int .u8 (x 5)) ∧ w'.cell? ⟨rb, 6, none⟩ = some (.int .u8 (x 6)) ∧ w'.cell? ⟨rb, 7, none⟩ = some (.int .u8 (x 7)) ∧ w'.cell? ⟨rb, 8, none⟩ = some (.int .u8 (x 8)) ∧ w'.cell? ⟨rb, 9, none⟩ = some (.int .u8 (x 9))) (first | (with_reducible exact keepAll HNE.out ⟨m2, m3, m4, m5, m6, m7, m8, m9⟩) | exact ⟨m2, m3, m4, m5, m6, m7, m8, m9⟩)
    (first | (go_at_call 8; with_reducible refine (cA _).mono ?_; rintro e w' ⟨rfl, rfl⟩; dsimp only) | (go_at_call 8; with_reducible refine (cB _).mono ?_; rintro e w' ⟨rfl, rfl⟩; dsimp only))
  have O2 : Hid (One w7 wb (upd (upd (upd (upd f 0 (.int .u8 (x 1 / 4 % 8))) 1 (.int .u8 (x 1 % 4))) 2 (.float .f64 DA)) 3 (.float .f64 DB)) (((w8.setCell ⟨wb, 2, none⟩ (.float .f64 DA)).setCell ⟨wb, 3, none⟩ (.float .f64 DB)).drew)) := ((O1.out.set 2 (by omega) (.float .f64 DA)).set 3 (by omega) (.float .f64 DB)).drewN 1
  clear O0 O1 m2 m3 m4 m5 m6 m7 m8 m9 s2 s3 g2 g3 cA cB hq1 hq2 y1a y1b
  generalize ((w8.setCell ⟨wb, 2, none⟩ (.float .f64 DA)).setCell ⟨wb, 3, none⟩ (.float .f64 DB)).drew = w9 at *
  refine HK.out _ _ ?_
  have ea : DA = deg4 (x 2) (x 3) (x 4) (x 5) := by rw [deg4_is, HDA.out, HA.out]
  have eb : DB = deg4 (x 6) (x 7) (x 8) (x 9) := by rw [deg4_is, HDB.out, HB8.out]
  have eR : R = ((Yba.f4.body.bind (fromR 11)).getD .skip) := by rw [HR.out]; rfl
  rw [eR]
  clear HK HR eR
  refine Code.wp_mono HQ.out ?_
  exact lawB_tail x rb sb wb v w9 HX.out (fun i hi => O2.out.cell hne (HM.out i hi)) hne hne2 (one_range O2.out hne2 HL.out) _ (fun i hi => O2.out.cur i hi) (by simp [upd_get]) (by simp [upd_get]) (by simp [upd_get, ea]) (by simp [upd_get, eb]) (fun i => O2.out.frozen HWB.out (HF.out i)) (HB.out.trans (O2.out.below hwb HB.out.size)) hwb _ _ _ _ _ _ _ _ _ _ _ _ _ _ _ _ _ _ _ _ _ _ _ _ _ _ _ _ _ _ _ _ _ _ _ _ _ _ _ _ _ _ _ _ _ _ _ _ _ _ _ _ _ _ _ _ _ _ _ _ _ _ _ _ _ _ _ _ _ _ _ _ _ _ _ _ _ _ _ _ _ _ _ _ _ _ _ _ _ _ _ _ _ _ _ _ _ _ _
end Go.Proofs.Ybulkedgy
