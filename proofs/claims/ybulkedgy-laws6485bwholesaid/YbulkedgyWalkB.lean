import Derived.Test.YbulkedgyRestB
namespace Go.Proofs.Ybulkedgy
open Go.RowKit
attribute [local irreducible] deg4 le2 le4

set_option maxHeartbeats 3200000 in
set_option maxRecDepth 100000 in
theorem lawB_any (x : Nat → Int) (hx : ∀ i, IsB (x i)) (xs ss : List Value) (hxe : ∀ i, i < 25 → xs[i]? = some (.int .u8 (x i))) (heq : ∀ w, (Op.equalIn 10000 37 (.agg xs.toArray) (.agg xs.toArray)).run Yba.prog w = .ok true w) (hxl : xs.length = 25) (hsl : ss.length = 12) (hxo : ∀ v ∈ xs, v.oneCell' = true) (hso : ∀ v ∈ ss, v.oneCell' = true) (w : World) :
    Calls Yba.prog 4 #[.agg xs.toArray, .agg ss.toArray] w fun e w' => e = .returned (.bool true) ∧ Below w.heap.size w w' := by
  have HX : Hid (∀ i, IsB (x i)) := hx
  have HE : Hid (∀ i, i < 25 → xs[i]? = some (.int .u8 (x i))) := hxe
  have R0 : Hid (World.rangeAt ((w.alloc (.cells xs.toArray 28)).alloc (.cells ss.toArray 36)) w.heap.size 0 xs) := range_new w xs.toArray 28 _ ((Below.refl _ _).alloc (by simp) _)
  have R1 : Hid (World.rangeAt ((w.alloc (.cells xs.toArray 28)).alloc (.cells ss.toArray 36)) (w.heap.size + 1) 0 ss) := by
    have := range_new (w.alloc (.cells xs.toArray 28)) ss.toArray 36 _ (Below.refl _ _)
    unfold Hid; simpa using this
  have B2 : Hid (Below w.heap.size w ((w.alloc (.cells xs.toArray 28)).alloc (.cells ss.toArray 36))) := ((Below.refl _ _).alloc (Nat.le_refl _) _).alloc (by simp) _
  have N2 : Hid (((w.alloc (.cells xs.toArray 28)).alloc (.cells ss.toArray 36)).heap.size = w.heap.size + 2) := by unfold Hid; simp
  have I28 : Hid ((Yba.prog.info? 28).map (·.size) = some xs.length) := by unfold Hid; rw [hxl]; exact info28
  have I37 : Hid ((Yba.prog.info? 37).map (·.size) = some xs.length) := by unfold Hid; rw [hxl]; exact info37
  have I37' : Hid ((Yba.prog.info? 37).map (·.size) = some xs.toArray.size) := by unfold Hid; simpa [hxl] using info37
  have I36 : Hid ((Yba.prog.info? 36).map (·.size) = some ss.length) := by unfold Hid; rw [hsl]; exact info36
  have I36' : Hid ((Yba.prog.info? 36).map (·.size) = some ss.toArray.size) := by unfold Hid; simpa [hsl] using info36
  have XO : Hid (xs.toArray.all (·.oneCell') = true) := all_oneCell_toArray hxo
  have SO : Hid (ss.toArray.all (·.oneCell') = true) := all_oneCell_toArray hso
  have HXL : Hid (xs.length = 25) := hxl
  have HSL : Hid (ss.length = 12) := hsl
  clear hx hxe hxl hsl hxo hso
  go_enter Yba.func4, Yba.ntmps4
  go_upto_region 1 with fail
  generalize ((w.alloc (.cells xs.toArray 28)).alloc (.cells ss.toArray 36)) = v2 at *
  have T3 : Hid ((v2.alloc (.cells zero25 37)).there v2.heap.size 0 xs.toArray.size) := stage_there v2 zero25 37 xs (by rw [HXL.out]; rfl)
  have S3 : Hid (Stage v2 ((v2.alloc (.cells zero25 37)).setCells v2.heap.size 0 xs) xs) := stage v2 zero25 37 xs (by rw [HXL.out]; rfl)
  go_upto_region 2 with (first | (refine wpList_load_mid rfl 28 _ rfl w.heap.size 0 rfl xs _ (by exact R0.out) Yba.underlying28 rfl (by exact I28.out) ?_) | (refine wpList_store_mid rfl 37 _ _ rfl v2.heap.size 0 xs.toArray rfl rfl (by exact T3.out) (by exact I37'.out) (by exact XO.out) ?_))
  show Code.wp _ _ _ _ ((v2.alloc (.cells zero25 37)).setCells v2.heap.size 0 xs)
  have R0' := Hid.mk' (range_keep S3.out.bel (by have := N2.out; omega) R0.out)
  have R1' := Hid.mk' (range_keep S3.out.bel (by have := N2.out; omega) R1.out)
  generalize ((v2.alloc (.cells zero25 37)).setCells v2.heap.size 0 xs) = v3 at S3 R0' R1' ⊢
  have T4 : Hid ((v3.alloc (.cells zero25 37)).there v3.heap.size 0 xs.toArray.size) := stage_there v3 zero25 37 xs (by rw [HXL.out]; rfl)
  have S4 : Hid (Stage v3 ((v3.alloc (.cells zero25 37)).setCells v3.heap.size 0 xs) xs) := stage v3 zero25 37 xs (by rw [HXL.out]; rfl)
  have R2 := Hid.mk' S3.out.row
  clear R0 R1 T3
  go_upto_region 3 with (first | (refine wpList_load_mid rfl 37 _ rfl v2.heap.size 0 rfl xs _ (by exact R2.out) Yba.underlying37 rfl (by exact I37.out) ?_) | (refine wpList_store_mid rfl 37 _ _ rfl v3.heap.size 0 xs.toArray rfl rfl (by exact T4.out) (by exact I37'.out) (by exact XO.out) ?_))
  show Code.wp _ _ _ _ ((v3.alloc (.cells zero25 37)).setCells v3.heap.size 0 xs)
  have N3 := Hid.mk' (S3.out.size.trans (congrArg (· + 1) N2.out))
  have R0 := Hid.mk' (range_keep S4.out.bel (by have := N3.out; omega) R0'.out)
  have R1 := Hid.mk' (range_keep S4.out.bel (by have := N3.out; omega) R1'.out)
  have R2' := Hid.mk' (range_keep S4.out.bel (by have := S3.out.size; omega) R2.out)
  generalize ((v3.alloc (.cells zero25 37)).setCells v3.heap.size 0 xs) = v4 at S4 R0 R1 R2' ⊢
  have T5 : Hid ((v4.alloc (.cells zero12 36)).there v4.heap.size 0 ss.toArray.size) := stage_there v4 zero12 36 ss (by rw [HSL.out]; rfl)
  have S5 : Hid (Stage v4 ((v4.alloc (.cells zero12 36)).setCells v4.heap.size 0 ss) ss) := stage v4 zero12 36 ss (by rw [HSL.out]; rfl)
  have R3 := Hid.mk' S4.out.row
  have N4 := Hid.mk' (S4.out.size.trans (congrArg (· + 1) N3.out))
  clear R0' R1' R2 T4
  go_upto_region 4 with (first | (refine wpList_load_mid rfl 36 _ rfl (w.heap.size + 1) 0 rfl ss _ (by exact R1.out) Yba.underlying36 rfl (by exact I36.out) ?_) | (refine wpList_store_mid rfl 36 _ _ rfl v4.heap.size 0 ss.toArray rfl rfl (by exact T5.out) (by exact I36'.out) (by exact SO.out) ?_))
  show Code.wp _ _ _ _ ((v4.alloc (.cells zero12 36)).setCells v4.heap.size 0 ss)
  have R0' := Hid.mk' (range_keep S5.out.bel (by have := N4.out; omega) R0.out)
  have R2 := Hid.mk' (range_keep S5.out.bel (by have := S3.out.size; have := S4.out.size; omega) R2'.out)
  have R3' := Hid.mk' (range_keep S5.out.bel (by have := S4.out.size; omega) R3.out)
  generalize ((v4.alloc (.cells zero12 36)).setCells v4.heap.size 0 ss) = v5 at S5 R0' R2 R3' ⊢
  have R4 := Hid.mk' S5.out.row
  have F4 := Hid.mk' S5.out.froz
  have N5 := Hid.mk' (S5.out.size.trans (congrArg (· + 1) N4.out))
  have B5 : Hid (Below w.heap.size w v5) := ((B2.out.trans (S3.out.bel.mono (by have := N2.out; omega))).trans (S4.out.bel.mono (by have := N3.out; omega))).trans (S5.out.bel.mono (by have := N4.out; omega))
  clear R0 R1 R2' R3 T5
  go_wp2_with fail
  have hsb : v2.heap.size ≠ v4.heap.size := by have := S3.out.size; have := S4.out.size; omega
  refine (sys_any v2.heap.size v4.heap.size x (fun i => ss.getD i undef) v5 hsb HX.out (fun i hi => by have := R2.out i _ (HE.out i hi); rwa [Nat.zero_add] at this) (fun i hi => by have := R4.out i (ss.getD i undef) (by have := HSL.out; simp [List.getD, show i < ss.length by omega]); rwa [Nat.zero_add] at this) F4.out).mono ?_
  rintro e w6 ⟨rfl, F, hO, h0, h1, h2, h3, h4, h5, h6, h7, h8, h9, h10, h11⟩
  dsimp only
  have L1 := Hid.mk' (sysL_range x hO h0 h1 h2 h3 h4 h5 h6 h7 h8 h9 h10 h11)
  have Q0 := Hid.mk' (one_range hO (by have := S3.out.size; have := S4.out.size; have := N2.out; omega) R0'.out)
  have Q2 := Hid.mk' (one_range hO hsb R2.out)
  have Q3 := Hid.mk' (one_range hO (by have := S4.out.size; omega) R3'.out)
  have B6 : Hid (Below w.heap.size w w6) := B5.out.trans (hO.below (by have := N4.out; omega) (by have := N5.out; omega))
  have N6 : Hid (w.heap.size + 5 ≤ w6.heap.size) := by have := hO.size; have := N5.out; unfold Hid; omega
  clear hO h0 h1 h2 h3 h4 h5 h6 h7 h8 h9 h10 h11 R0' R2 R3' R4 F4
  have I36L : Hid ((Yba.prog.info? 36).map (·.size) = some (sysL x).length) := info36
  go_upto_region 8 with (first | (refine wpList_load_mid rfl 37 _ rfl v2.heap.size 0 rfl xs _ (by exact Q2.out) Yba.underlying37 rfl (by exact I37.out) ?_) | (refine wpList_load_mid rfl 37 _ rfl v3.heap.size 0 rfl xs _ (by exact Q3.out) Yba.underlying37 rfl (by exact I37.out) ?_))
  have C := fun (w' : World) (b : Below w6.heap.size w6 w') (i : Nat) (hi : i < 25) => (show w'.cell? ⟨w.heap.size, i, none⟩ = some (.int .u8 (x i)) from by
    have h := (range_keep b (by have := N6.out; omega) Q0.out) i _ (HE.out i hi)
    rwa [Nat.zero_add] at h)
  have HC := Hid.mk' C
  have O0 : Hid (One (w6.alloc (.cells zero12 36)) w6.heap.size (fun i => zero12.getD i undef) (w6.alloc (.cells zero12 36))) := One.refl (fun i hi => by
    have h := range_new w6 zero12 36 _ (Below.refl _ _) i (zero12.getD i undef) (by
      have : i < zero12.size := hi
      simp [Array.getD, this])
    rwa [Nat.zero_add] at h)
  show Code.wp _ _ _ _ (w6.alloc (.cells zero12 36))
  have H7 := Hid.mk' (fun (i : Nat) (hi : i < 25) => HC.out _ ((Below.refl _ w6).alloc (Nat.le_refl _) (.cells zero12 36)) i hi)
  have HL7 := Hid.mk' (range_keep ((Below.refl w6.heap.size w6).alloc (Nat.le_refl _) (.cells zero12 36)) (by have := N6.out; have := N4.out; omega) L1.out)
  have HF7 : Hid (∀ i, (w6.alloc (.cells zero12 36)).frozen? ⟨w6.heap.size, i, none⟩ = false) := by unfold Hid; intro i; simp
  have HB7 := Hid.mk' (B6.out.alloc (by have := N6.out; omega) (.cells zero12 36))
  have HN1 : Hid (w.heap.size ≠ w6.heap.size) := by have := N6.out; unfold Hid; omega
  have HN2 : Hid (v4.heap.size ≠ w6.heap.size) := by have := N6.out; have := N4.out; unfold Hid; omega
  rename_i Q' K hK
  exact lawB_rest x w.heap.size v4.heap.size w6.heap.size w (w6.alloc (.cells zero12 36)) HX.out H7.out HN1.out HN2.out HL7.out _ (fun i hi => O0.out.cur i hi) HF7.out HB7.out (by have := N6.out; omega) Q' K (fun _ _ _ h => h) hK _ _ _ _ _ _ _ _ _ _ _ _ _ _ _ _ _ _ _ _ _ _ _ _ _ _ _ _ _ _ _ _ _ _ _ _ _ _ _ _ _ _ _ _ _ _ _ _ _ _ _ _ _ _ _ _ _ _ _ _ _ _ _ _ _ _ _ _ _ _ _ _ _ _ _ _ _ _ _ _ _ _ _ _ _ _ _ _ _ _ _ _ _ _ _ _ _ _ _
end Go.Proofs.Ybulkedgy
