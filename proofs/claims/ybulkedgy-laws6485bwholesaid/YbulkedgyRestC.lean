import Derived.Test.YbulkedgyEq
namespace Go.Proofs.Ybulkedgy
open Go.RowKit

def headR : Code → Option Nat
  | .region n _ _ => some n
  | .seq a _ => headR a
  | .block _ c => headR c
  | _ => none
def fromR (n : Nat) : Code → Option Code
  | .seq a b => if headR a == some n then some (.seq a b) else fromR n b
  | .block _ c => fromR n c
  | c => if headR c == some n then some c else none

theorem one_range {w w' : World} {sb g : Nat} {F : Nat → Value} {cs : List Value} (h : One w sb F w') (hne : g ≠ sb) (r : w.rangeAt g 0 cs) : w'.rangeAt g 0 cs := by
  intro j v hv
  exact h.cell hne (r j v hv)
theorem One.below {w w' : World} {sb B : Nat} {F : Nat → Value} (h : One w sb F w') (hB : B ≤ sb) (hw : B ≤ w.heap.size) : Below B w w' :=
  ⟨h.os, h.tape, h.output, h.size, fun k hk => h.block k (by omega) (by omega)⟩

theorem have8 (a b c d : Int) (ha : IsB a) (hb : IsB b) (hc : IsB c) (hd : IsB d) : ∃ A, Hid (A = le4 a b c d) ∧ ∀ w, Calls Yba.prog 8 #[.int .u8 a, .int .u8 b, .int .u8 c, .int .u8 d] w fun e w' => e = .returned (.int .u32 A) ∧ w' = w :=
  ⟨_, Hid.mk' rfl, fun w => le32_any a b c d ha hb hc hd w⟩

theorem have9 (a b : Int) (ha : IsB a) (hb : IsB b) : ∃ A, Hid (A = le2 a b) ∧ 0 ≤ A ∧ A < 65536 ∧ ∀ w, Calls Yba.prog 9 #[.int .u8 a, .int .u8 b] w fun e w' => e = .returned (.int .u16 A) ∧ w' = w :=
  ⟨_, Hid.mk' rfl, (le2_bounds ha hb).1, (le2_bounds ha hb).2, fun w => le16_any a b ha hb w⟩

attribute [local irreducible] degrees floatOfInt deg4 le2 le4 upd

set_option maxHeartbeats 3200000 in
set_option maxRecDepth 100000 in
theorem lawB_tail (x : Nat → Int) (rb sb wb : Nat) (v w9 : World) (hx : ∀ i, IsB (x i)) (hm : ∀ i, i < 25 → w9.cell? ⟨rb, i, none⟩ = some (.int .u8 (x i))) (hne : rb ≠ wb) (hne2 : sb ≠ wb) (hL : w9.rangeAt sb 0 (sysL x))
    (f : Nat → Value) (hs : ∀ i, i < 12 → w9.cell? ⟨wb, i, none⟩ = some (f i)) (h0 : f 0 = .int .u8 (x 1 / 4 % 8)) (h1 : f 1 = .int .u8 (x 1 % 4)) (h2 : f 2 = .float .f64 (deg4 (x 2) (x 3) (x 4) (x 5))) (h3 : f 3 = .float .f64 (deg4 (x 6) (x 7) (x 8) (x 9)))
    (hf : ∀ i, w9.frozen? ⟨wb, i, none⟩ = false) (hB : Below v.heap.size v w9) (hwb : v.heap.size ≤ wb)
    (c0 c1 c3 c4 c5 c6 c9 c10 c11 c12 c13 c14 c15 c16 c17 c18 c19 c20 c21 c22 c23 c24 c25 c26 c27 c28 c29 c30 c31 c32 c33 c34 c35 c36 c37 c38 c39 c40 c41 c42 c43 c44 c45 c46 c47 c48 c49 c50 c51 c52 c53 c54 c55 c56 c57 c58 c59 c60 c61 c62 c63 c64 c65 c66 c67 c68 c69 c70 c71 c72 c73 c74 c75 c76 c77 c78 c79 c80 c81 c82 c83 c84 c85 c86 c87 c88 c89 c90 c91 c92 c93 c94 c95 c96 c97 c98 c99 c100 c101 : Value) :
    Code.wp Yba.prog ((Yba.f4.body.bind (fromR 11)).getD .skip) (bodyPost Yba.prog Yba.f4 (fun e w' => e = .returned (.bool true) ∧ Below v.heap.size v w')) ⟨#[c0, c1, .pointer (some ⟨rb, 0, none⟩), c3, c4, c5, c6, .pointer (some ⟨sb, 0, none⟩), .pointer (some ⟨wb, 0, none⟩), c9, c10, c11, c12, c13, c14, c15, c16, c17, c18, c19, c20, c21, c22, c23, c24, c25, c26, c27, c28, c29, c30, c31, c32, c33, c34, c35, c36, c37, c38, c39, c40, c41, c42, c43, c44, c45, c46, c47, c48, c49, c50, c51, c52, c53, c54, c55, c56, c57, c58, c59, c60, c61, c62, c63, c64, c65, c66, c67, c68, c69, c70, c71, c72, c73, c74, c75, c76, c77, c78, c79, c80, c81, c82, c83, c84, c85, c86, c87, c88, c89, c90, c91, c92, c93, c94, c95, c96, c97, c98, c99, c100, c101], []⟩ w9 := by
  have HWB : Hid (wb < w9.heap.size) := World.block_lt_of_cell? w9 ⟨wb, 0, none⟩ (hs 0 (by omega))
  have O0 : Hid (One w9 wb f w9) := One.refl hs
  have HM : Hid (∀ i, i < 25 → w9.cell? ⟨rb, i, none⟩ = some (.int .u8 (x i))) := hm
  have HF : Hid (∀ i, w9.frozen? ⟨wb, i, none⟩ = false) := hf
  have HX : Hid (∀ i, IsB (x i)) := hx
  have HNE : Hid (rb ≠ wb) := hne
  have HNE2 : Hid (sb ≠ wb) := hne2
  have HL : Hid (w9.rangeAt sb 0 (sysL x)) := hL
  have HB : Hid (Below v.heap.size v w9) := hB
  have H0 := Hid.mk' h0
  have H1 := Hid.mk' h1
  have H2 := Hid.mk' h2
  have H3 := Hid.mk' h3
  have HVB := Hid.mk' hwb
  clear hm hs hf hx hL hB h0 h1 h2 h3 hne hne2 hwb
  conv => arg 2; whnf
  obtain ⟨u4, s4⟩ := O0.out.some 4 (by omega)
  have g4 := O0.out.frozen HWB.out (HF.out 4)
  have m18 := O0.out.cell HNE.out (HM.out 18 (by omega))
  have m19 := O0.out.cell HNE.out (HM.out 19 (by omega))
  obtain ⟨L4, HL4, l4a, l4b, cc4⟩ := have9 (x 18) (x 19) (HX.out _) (HX.out _)
  go_upto_region 12 with (go_at_call 9; with_reducible refine (cc4 _).mono ?_; rintro e w' ⟨rfl, hw'⟩; subst w'; dsimp only)
  have O1 := Hid.mk' (O0.out.set 4 (by omega) (.int .u16 L4))
  clear s4 g4 m18 m19
  show Code.wp _ _ _ _ (w9.setCell ⟨wb, 4, none⟩ (.int .u16 L4))
  generalize (w9.setCell ⟨wb, 4, none⟩ (.int .u16 L4)) = v1 at O1 ⊢
  obtain ⟨u5, s5⟩ := O1.out.some 5 (by omega)
  have g5 := O1.out.frozen HWB.out (HF.out 5)
  have m10 := O1.out.cell HNE.out (HM.out 10 (by omega))
  have m11 := O1.out.cell HNE.out (HM.out 11 (by omega))
  obtain ⟨L5, HL5, l5a, l5b, cc5⟩ := have9 (x 10) (x 11) (HX.out _) (HX.out _)
  have hw5 : IntKind.i64.wrap L5 = L5 := by rw [IntKind.wrap_i64]; omega
  go_upto_region 13 with (go_at_call 9; with_reducible refine (cc5 _).mono ?_; rintro e w' ⟨rfl, hw'⟩; subst w'; dsimp only)
  have O2 := Hid.mk' (O1.out.set 5 (by omega) (.int .i64 L5))
  clear s5 g5 m10 m11
  show Code.wp _ _ _ _ (v1.setCell ⟨wb, 5, none⟩ (.int .i64 L5))
  generalize (v1.setCell ⟨wb, 5, none⟩ (.int .i64 L5)) = v2 at O2 ⊢
  obtain ⟨u6, s6⟩ := O2.out.some 6 (by omega)
  have g6 := O2.out.frozen HWB.out (HF.out 6)
  have m12 := O2.out.cell HNE.out (HM.out 12 (by omega))
  have y12a : 0 ≤ x 12 := (HX.out 12).1
  have y12b : x 12 < 256 := (HX.out 12).2
  go_upto_region 14 with fail
  have O3 := Hid.mk' (O2.out.set 6 (by omega) (.int .i64 (10 * x 12)))
  clear s6 g6 m12
  show Code.wp _ _ _ _ (v2.setCell ⟨wb, 6, none⟩ (.int .i64 (10 * x 12)))
  generalize (v2.setCell ⟨wb, 6, none⟩ (.int .i64 (10 * x 12))) = v3 at O3 ⊢
  obtain ⟨u7, s7⟩ := O3.out.some 7 (by omega)
  have g7 := O3.out.frozen HWB.out (HF.out 7)
  have m13 := O3.out.cell HNE.out (HM.out 13 (by omega))
  have m14 := O3.out.cell HNE.out (HM.out 14 (by omega))
  obtain ⟨L7, HL7, l7a, l7b, cc7⟩ := have9 (x 13) (x 14) (HX.out _) (HX.out _)
  go_upto_region 15 with (go_at_call 9; with_reducible refine (cc7 _).mono ?_; rintro e w' ⟨rfl, hw'⟩; subst w'; dsimp only)
  have O4 := Hid.mk' (O3.out.set 7 (by omega) (.int .u16 L7))
  clear s7 g7 m13 m14
  show Code.wp _ _ _ _ (v3.setCell ⟨wb, 7, none⟩ (.int .u16 L7))
  generalize (v3.setCell ⟨wb, 7, none⟩ (.int .u16 L7)) = v4 at O4 ⊢
  obtain ⟨u8, s8⟩ := O4.out.some 8 (by omega)
  have g8 := O4.out.frozen HWB.out (HF.out 8)
  have m15 := O4.out.cell HNE.out (HM.out 15 (by omega))
  have m16 := O4.out.cell HNE.out (HM.out 16 (by omega))
  obtain ⟨L8, HL8, l8a, l8b, cc8⟩ := have9 (x 15) (x 16) (HX.out _) (HX.out _)
  go_upto_region 16 with (go_at_call 9; with_reducible refine (cc8 _).mono ?_; rintro e w' ⟨rfl, hw'⟩; subst w'; dsimp only)
  have O5 := Hid.mk' (O4.out.set 8 (by omega) (.int .u16 L8))
  clear s8 g8 m15 m16
  show Code.wp _ _ _ _ (v4.setCell ⟨wb, 8, none⟩ (.int .u16 L8))
  generalize (v4.setCell ⟨wb, 8, none⟩ (.int .u16 L8)) = v5 at O5 ⊢
  obtain ⟨u9, s9⟩ := O5.out.some 9 (by omega)
  have g9 := O5.out.frozen HWB.out (HF.out 9)
  have m17 := O5.out.cell HNE.out (HM.out 17 (by omega))
  have y17a : 0 ≤ x 17 := (HX.out 17).1
  have y17b : x 17 < 256 := (HX.out 17).2
  go_upto_region 17 with fail
  have O6 := Hid.mk' (O5.out.set 9 (by omega) (.int .u8 (x 17 / 16)))
  clear s9 g9 m17
  show Code.wp _ _ _ _ (v5.setCell ⟨wb, 9, none⟩ (.int .u8 (x 17 / 16)))
  generalize (v5.setCell ⟨wb, 9, none⟩ (.int .u8 (x 17 / 16))) = v6 at O6 ⊢
  obtain ⟨u10, s10⟩ := O6.out.some 10 (by omega)
  have g10 := O6.out.frozen HWB.out (HF.out 10)
  have m17 := O6.out.cell HNE.out (HM.out 17 (by omega))
  go_upto_region 18 with fail
  have O7 := Hid.mk' (O6.out.set 10 (by omega) (.int .u8 (x 17 % 16)))
  clear s10 g10 m17
  show Code.wp _ _ _ _ (v6.setCell ⟨wb, 10, none⟩ (.int .u8 (x 17 % 16)))
  generalize (v6.setCell ⟨wb, 10, none⟩ (.int .u8 (x 17 % 16))) = v7 at O7 ⊢
  obtain ⟨u11, s11⟩ := O7.out.some 11 (by omega)
  have g11 := O7.out.frozen HWB.out (HF.out 11)
  have m20 := O7.out.cell HNE.out (HM.out 20 (by omega))
  have m21 := O7.out.cell HNE.out (HM.out 21 (by omega))
  have m22 := O7.out.cell HNE.out (HM.out 22 (by omega))
  have m23 := O7.out.cell HNE.out (HM.out 23 (by omega))
  obtain ⟨L11, HL11, cc11⟩ := have8 (x 20) (x 21) (x 22) (x 23) (HX.out _) (HX.out _) (HX.out _) (HX.out _)
  go_upto_region 19 with (go_at_call 8; with_reducible refine (cc11 _).mono ?_; rintro e w' ⟨rfl, hw'⟩; subst w'; dsimp only)
  have O8 := Hid.mk' (O7.out.set 11 (by omega) (.int .u32 L11))
  clear s11 g11 m20 m21 m22 m23
  show Code.wp _ _ _ _ (v7.setCell ⟨wb, 11, none⟩ (.int .u32 L11))
  generalize (v7.setCell ⟨wb, 11, none⟩ (.int .u32 L11)) = v8 at O8 ⊢
  have LW := Hid.mk' (sysL_range x O8.out (by simp [upd_get, H0.out]) (by simp [upd_get, H1.out]) (by simp [upd_get, H2.out]) (by simp [upd_get, H3.out]) (by simp [upd_get, HL4.out]) (by simp [upd_get, HL5.out]) (by simp [upd_get, Int.mul_comm]) (by simp [upd_get, HL7.out]) (by simp [upd_get, HL8.out]) (by simp [upd_get]) (by simp [upd_get]) (by simp [upd_get, HL11.out]))
  have LS := Hid.mk' (one_range O8.out HNE2.out HL.out)
  have BE : Hid (Below v.heap.size v v8) := HB.out.trans (O8.out.below HVB.out HB.out.size)
  have I36L : Hid ((Yba.prog.info? 36).map (·.size) = some (sysL x).length) := info36
  have EQ := eq_sys x
  have B8 := BE.out
  have hlen : (sysL x).length = 12 := rfl
  generalize sysL x = L at *
  go_wp2_with (first | (refine wpList_load_mid rfl 36 _ rfl sb 0 rfl L _ (by exact LS.out) Yba.underlying36 rfl (by exact I36L.out) ?_) | (refine wpList_load_mid rfl 36 _ rfl wb 0 rfl L _ (by exact LW.out) Yba.underlying36 rfl (by exact I36L.out) ?_))
  go_ret
  exact ⟨rfl, B8⟩
end Go.Proofs.Ybulkedgy
