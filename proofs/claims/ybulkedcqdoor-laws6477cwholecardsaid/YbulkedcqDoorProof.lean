import Derived.Test.YbulkedcqDoorLaw
import Derived.Test.YbulkedcqDoorRows
import Derived.ProofKit
import Derived.OpenShut
import Derived.LaidMore
import Derived.Lay
import Derived.WalkSmall
import Derived.Stop.Joined
import Derived.Below
namespace Go.Proofs.YbulkedcqDoor
open Go.ChangeShapes Go.WideShapes Go.ChangeAt Go.WideMaps Go.WideElems Go.RowKit

theorem own : ownKnob Ybad.prog.godebug = none := by kernel_rfl
theorem laidOut : laidOutB Ybad.prog = true := by kernel_rfl
theorem gZ : Ybad.prog.globalNamed ((Rows.lawS6477CWholeRow.laid.map (·.1)).getD 0 "") = some 0 := by kernel_rfl
theorem gL : Ybad.prog.globalNamed ((Rows.lawS6477CWholeRow.laid.map (·.1)).getD 1 "") = some 1 := by kernel_rfl
theorem tZ : (Ybad.prog.globals[0]?).map (·.type) = some 47 := by kernel_rfl
theorem tL : (Ybad.prog.globals[1]?).map (·.type) = some 66 := by kernel_rfl

def cellInt : Option Value → Int
  | some (.int _ z) => z
  | _ => 0

/-- An array of bytes, opened. -/
theorem open_u8s {H : Type} {enc : TypeId × Value → H} {P : Program} {w : World} {base : Nat} {sp : Nat → Bool} {held : Bool} {fuel n t : Nat} {cs : List Value} {x : DataW H × List MemPlace} (ht : P.underlying t = some (.array n 5)) (h5 : P.underlying 5 = some (.int .u8)) (c5 : P.cellsOf 5 = 1) (ct : P.cellsOf t = n)
    (h : DataW.trod enc P w base sp held fuel t cs = some x) : ∃ zs : List Int, zs.length = n ∧ cs = zs.map (Value.int .u8) ∧ x.1 = .agg (zs.map fun z => .lit (.int .u8 z)) ∧ ∀ z ∈ zs, (Lit.int .u8 z).wf = true := by
  obtain ⟨xs, m, rfl, hx, hlen, hn, hel⟩ := DataW.trod_array ht h
  rw [ct] at hlen
  have key : ∀ i, i < n → ∃ z, cs[i]? = some (.int .u8 z) ∧ (xs[i]?).map (·.1) = some (.lit (.int .u8 z)) ∧ (Lit.int .u8 z).wf = true := by
    intro i hi
    have e := hel i hi
    rw [c5, Nat.mul_one] at e
    have hxi : xs[i]? = some xs[i] := List.getElem?_eq_getElem (by omega)
    rw [hxi] at e
    obtain ⟨z, e1, e2, wz⟩ := DataW.trod_int h5 e
    refine ⟨z, ?_, by rw [hxi, e2]; rfl, wz⟩
    have e3 : (List.take 1 (List.drop i cs))[0]? = cs[i]? := by simp
    rw [← e3, e1]; rfl
  refine ⟨(List.range n).map fun i => cellInt cs[i]?, by simp, ?_, ?_, ?_⟩
  · apply List.ext_getElem? ; intro i
    by_cases hi : i < n
    · obtain ⟨z, h1, _, _⟩ := key i hi
      simp [hi, h1, cellInt]
    · rw [List.getElem?_eq_none (by omega), List.getElem?_eq_none (by simp; omega)]
  · rw [hx]
    show DataW.agg _ = DataW.agg _
    congr 1
    apply List.ext_getElem? ; intro i
    by_cases hi : i < n
    · obtain ⟨z, h1, h2, _⟩ := key i hi
      rw [List.getElem?_map, h2]
      simp [hi, h1, cellInt]
    · rw [List.getElem?_eq_none (by simp; omega), List.getElem?_eq_none (by simp; omega)]
  · intro z hz
    simp only [List.mem_map, List.mem_range] at hz
    obtain ⟨i, hi, rfl⟩ := hz
    obtain ⟨z, h1, _, wz⟩ := key i hi
    rw [h1]; exact wz

theorem okWide_u8s {W : World} {base n t : Nat} {r : Reach} {v : Value} (ht : Ybad.prog.underlying t = some (.array n 5)) (h : Value.okWide Ybad.prog W r base t v) : ∃ cs, v = .agg cs := by
  simp only [Value.okWide, ht] at h
  obtain ⟨cs, h1, _⟩ := h
  exact ⟨cs, h1⟩

theorem cells22 : Ybad.prog.cellsOf 22 = 16 := by kernel_rfl
theorem cells66 : Ybad.prog.cellsOf 66 = 8 := by kernel_rfl

/-- An argument of type [16]byte. -/
theorem open16 {H : Type} {enc : TypeId × Value → H} {W : World} {base : Nat} {r : Reach} {v : Value} {d : DataW H} {p : List MemPlace} (hv : Value.okWide Ybad.prog W r base 22 v) (h : DataW.Trod enc Ybad.prog W 0 (fun _ => true) true 22 v d p) :
    ∃ z0 z1 z2 z3 z4 z5 z6 z7 z8 z9 z10 z11 z12 z13 z14 z15 : Int, v = .agg #[.int .u8 z0, .int .u8 z1, .int .u8 z2, .int .u8 z3, .int .u8 z4, .int .u8 z5, .int .u8 z6, .int .u8 z7, .int .u8 z8, .int .u8 z9, .int .u8 z10, .int .u8 z11, .int .u8 z12, .int .u8 z13, .int .u8 z14, .int .u8 z15] ∧ IsB z0 ∧ IsB z1 ∧ IsB z2 ∧ IsB z3 ∧ IsB z4 ∧ IsB z5 ∧ IsB z6 ∧ IsB z7 ∧ IsB z8 ∧ IsB z9 ∧ IsB z10 ∧ IsB z11 ∧ IsB z12 ∧ IsB z13 ∧ IsB z14 ∧ IsB z15 := by
  obtain ⟨cs, rfl⟩ := okWide_u8s Ybad.underlying22 hv
  obtain ⟨fuel, hf⟩ := h
  obtain ⟨zs, hl, hcs, _, hw⟩ := open_u8s Ybad.underlying22 Ybad.underlying5 cells5 cells22 hf
  have hB : ∀ z ∈ zs, IsB z := fun z hz => by have := bounds_u8 (hw z hz); exact ⟨by omega, by omega⟩
  match zs, hl with
  | [z0, z1, z2, z3, z4, z5, z6, z7, z8, z9, z10, z11, z12, z13, z14, z15], _ =>
    have e : cs = #[.int .u8 z0, .int .u8 z1, .int .u8 z2, .int .u8 z3, .int .u8 z4, .int .u8 z5, .int .u8 z6, .int .u8 z7, .int .u8 z8, .int .u8 z9, .int .u8 z10, .int .u8 z11, .int .u8 z12, .int .u8 z13, .int .u8 z14, .int .u8 z15] := by
      apply Array.ext'
      simpa [Value.cells] using hcs
    subst e
    exact ⟨z0, z1, z2, z3, z4, z5, z6, z7, z8, z9, z10, z11, z12, z13, z14, z15, rfl, hB z0 (by simp), hB z1 (by simp), hB z2 (by simp), hB z3 (by simp), hB z4 (by simp), hB z5 (by simp), hB z6 (by simp), hB z7 (by simp), hB z8 (by simp), hB z9 (by simp), hB z10 (by simp), hB z11 (by simp), hB z12 (by simp), hB z13 (by simp), hB z14 (by simp), hB z15 (by simp)⟩

/-- What the listed variables give the walk. -/
theorem of_laid {W : World} (h : laidMetH Ybad.prog Rows.lawS6477CWholeRow.laid W) : (∃ z, W.cell? ⟨0, 0, none⟩ = some (.pointer z)) ∧ LL W := by
  rw [MakeChecks.laidMetH_plain _ _ _ (by kernel_rfl)] at h
  obtain ⟨ps, ⟨g0, t0, cs0, f0, p0, q0, hg0, ht0, hv0, hd0, ⟨g1, t1, cs1, f1, p1, q1, hg1, ht1, hv1, hd1, _, _⟩, _⟩, _, _⟩ := h
  obtain rfl := Option.some.inj (gZ.symm.trans hg0)
  obtain rfl := Option.some.inj (gL.symm.trans hg1)
  obtain rfl := Option.some.inj (tZ.symm.trans ht0)
  obtain rfl := Option.some.inj (tL.symm.trans ht1)
  refine ⟨?_, ?_⟩
  · obtain ⟨y0, m, _, hlen, hy⟩ := trod_struct1 Ybad.underlying47 hd0
    have c47 : Ybad.prog.cellsOf 47 = 1 := by kernel_rfl
    rw [c47] at hlen
    have hcell := World.var?_cell hg0 hv0 0
    obtain ⟨l0⟩ := cs0
    match l0, hlen with
    | [v], _ =>
      have c45 : Ybad.prog.cellsOf 45 = 1 := by kernel_rfl
      simp only [c45] at hy
      rcases DataW.trod_pointer Ybad.underlying45 hy with ⟨hv, _⟩ | ⟨a, _, _, _, _, hv, _⟩
      · simp at hv
        subst hv
        exact ⟨_, hcell⟩
      · simp at hv
        subst hv
        exact ⟨_, hcell⟩
  · obtain ⟨zs, hl, hcs, hx, _⟩ := open_u8s Ybad.underlying66 Ybad.underlying5 cells5 cells66 hd1
    have hz : zs = [254, 128, 0, 0, 0, 0, 0, 0] := by
      have e := hx.symm
      match zs, hl with
      | [z0, z1, z2, z3, z4, z5, z6, z7], _ =>
        simp [Rows.laid_example_com_ferryman_ferryman_internal_proxy_linkLocal64] at e
        obtain ⟨rfl, rfl, rfl, rfl, rfl, rfl, rfl, rfl⟩ := e
        rfl
    subst hz
    have hcell := fun i => World.var?_cell hg1 hv1 i
    obtain ⟨l1⟩ := cs1
    simp only at hcs
    subst hcs
    exact ⟨hcell 0, hcell 1, hcell 2, hcell 3, hcell 4, hcell 5, hcell 6, hcell 7⟩

set_option maxHeartbeats 4000000 in
set_option maxRecDepth 100000 in
theorem lifted (os : Os) (started : os.Started) (H : Type) (enc : TypeId × Value → H) :
    ReturnsInHanded {} Ybad.checked os 3 .any (fun w args => (Rows.lawS6477CWholeSpec.pre enc Ybad.prog Ybad.f3 [] false w args ∧ laidMetH Ybad.prog Rows.lawS6477CWholeRow.laid w) ∧ sizedMet enc Ybad.prog Ybad.f3 (OpenSpec.ofChange Rows.lawS6477CWholeSpec) false w args)
      (Rows.lawS6477CWholeSpec.post enc Ybad.prog Ybad.f3 false true false false) := by
  refine returnsInHanded_of_change_and (C := Ybad.checked) (X := fun w _ => laidMetH Ybad.prog Rows.lawS6477CWholeRow.laid w) (fun _ _ _ hh h => h.of_heap hh) own started (by kernel_rfl) Ybad.func3
    (ChangeSpec.witness_shaped (enc := enc) (C := Ybad.checked) (os := os) (X := fun w _ => laidMetH Ybad.prog Rows.lawS6477CWholeRow.laid w) false (World.laidAll Ybad.prog os Rows.lawS6477CWholeRow.laid) #[.int .i64 0, .agg #[.int .u8 0, .int .u8 0, .int .u8 0, .int .u8 0, .int .u8 0, .int .u8 0, .int .u8 0, .int .u8 0, .int .u8 0, .int .u8 0, .int .u8 0, .int .u8 0, .int .u8 0, .int .u8 0, .int .u8 0, .int .u8 0], .int .u16 0, .bool false, .agg #[.int .u8 0, .int .u8 0, .int .u8 0, .int .u8 0, .int .u8 0, .int .u8 0, .int .u8 0, .int .u8 0, .int .u8 0, .int .u8 0, .int .u8 0, .int .u8 0, .int .u8 0, .int .u8 0, .int .u8 0, .int .u8 0], .agg #[.int .u8 0, .int .u8 0, .int .u8 0, .int .u8 0, .int .u8 0, .int .u8 0, .int .u8 0, .int .u8 0, .int .u8 0, .int .u8 0, .int .u8 0, .int .u8 0, .int .u8 0, .int .u8 0, .int .u8 0, .int .u8 0], .bool false, .int .i64 0] 8 (World.laidAll_os _ _ _) (World.shaped_of_ZipB (by kernel_rfl) (by kernel_rfl)) (by kernel_rfl) (by kernel_rfl) (by kernel_rfl)
      (by rw [MakeChecks.laidMetH_plain _ _ _ (by kernel_rfl)]; exact laidMet_laidAll _ (by kernel_rfl) (by kernel_rfl))) ?_
  intro W base args ds gs before hval0 hW _ _ hL _
  have hval : ∀ (j : Nat) t v, Ybad.f3.params[j]? = some t → args[j]? = some v → Value.okWide Ybad.prog W .any base t v := hval0
  have hW' := hW
  obtain ⟨p, q, hA0, hV, rfl, hfz, hnd⟩ := hW
  have hA : DataW.TrodAll enc Ybad.prog W 0 (fun _ => true) true Ybad.f3.params.toList args.toList ds p := hA0
  rw [Ybad.params3] at hA hval
  obtain ⟨v0, vs0, d0, ds0, p0, q0, hargs, rfl, rfl, h0, r0⟩ := trodAll_cons hA
  obtain ⟨v1, vs1, d1, ds1, p1, q1, rfl, rfl, rfl, h1, r1⟩ := trodAll_cons r0
  obtain ⟨v2, vs2, d2, ds2, p2, q2, rfl, rfl, rfl, h2, r2⟩ := trodAll_cons r1
  obtain ⟨v3, vs3, d3, ds3, p3, q3, rfl, rfl, rfl, h3, r3⟩ := trodAll_cons r2
  obtain ⟨v4, vs4, d4, ds4, p4, q4, rfl, rfl, rfl, h4, r4⟩ := trodAll_cons r3
  obtain ⟨v5, vs5, d5, ds5, p5, q5, rfl, rfl, rfl, h5, r5⟩ := trodAll_cons r4
  obtain ⟨v6, vs6, d6, ds6, p6, q6, rfl, rfl, rfl, h6, r6⟩ := trodAll_cons r5
  obtain ⟨v7, vs7, d7, ds7, p7, q7, rfl, rfl, rfl, h7, r7⟩ := trodAll_cons r6
  obtain ⟨rfl, rfl, rfl⟩ := trodAll_nil r7
  obtain rfl : args = #[v0, v1, v2, v3, v4, v5, v6, v7] := by cases args; simp_all
  obtain ⟨g, t, cs, fuel, dg, pg, rfl, hgn, hgt, hvar, hdg, rfl⟩ := trodVars_one hV
  have rk0 := h0
  have lt0 : ∀ x ∈ p0, x.block < W.heap.size := by obtain ⟨m, hm⟩ := rk0; exact DataW.trod_lt m _ _ _ hm
  have rk1 := h1
  have lt1 : ∀ x ∈ p1, x.block < W.heap.size := by obtain ⟨m, hm⟩ := rk1; exact DataW.trod_lt m _ _ _ hm
  have rk2 := h2
  have lt2 : ∀ x ∈ p2, x.block < W.heap.size := by obtain ⟨m, hm⟩ := rk2; exact DataW.trod_lt m _ _ _ hm
  have rk3 := h3
  have lt3 : ∀ x ∈ p3, x.block < W.heap.size := by obtain ⟨m, hm⟩ := rk3; exact DataW.trod_lt m _ _ _ hm
  have rk4 := h4
  have lt4 : ∀ x ∈ p4, x.block < W.heap.size := by obtain ⟨m, hm⟩ := rk4; exact DataW.trod_lt m _ _ _ hm
  have rk5 := h5
  have lt5 : ∀ x ∈ p5, x.block < W.heap.size := by obtain ⟨m, hm⟩ := rk5; exact DataW.trod_lt m _ _ _ hm
  have rk6 := h6
  have lt6 : ∀ x ∈ p6, x.block < W.heap.size := by obtain ⟨m, hm⟩ := rk6; exact DataW.trod_lt m _ _ _ hm
  have rk7 := h7
  have lt7 : ∀ x ∈ p7, x.block < W.heap.size := by obtain ⟨m, hm⟩ := rk7; exact DataW.trod_lt m _ _ _ hm
  obtain ⟨join, rfl, rfl, rfl, wj⟩ := open_int Ybad.underlying3 (hval 0 3 v0 rfl rfl) h0
  obtain ⟨x0, x1, x2, x3, x4, x5, x6, x7, x8, x9, x10, x11, x12, x13, x14, x15, rfl, hx0, hx1, hx2, hx3, hx4, hx5, hx6, hx7, hx8, hx9, hx10, hx11, hx12, hx13, hx14, hx15⟩ := open16 (hval 1 22 v1 rfl rfl) h1
  obtain ⟨port, rfl, rfl, rfl, wp⟩ := open_int Ybad.underlying23 (hval 2 23 v2 rfl rfl) h2
  obtain ⟨force, rfl, rfl, rfl⟩ := open_bool Ybad.underlying4 (hval 3 4 v3 rfl rfl) h3
  obtain ⟨k0, k1, k2, k3, k4, k5, k6, k7, k8, k9, k10, k11, k12, k13, k14, k15, rfl, hk0, hk1, hk2, hk3, hk4, hk5, hk6, hk7, hk8, hk9, hk10, hk11, hk12, hk13, hk14, hk15⟩ := open16 (hval 4 22 v4 rfl rfl) h4
  obtain ⟨e0, e1, e2, e3, e4, e5, e6, e7, e8, e9, e10, e11, e12, e13, e14, e15, rfl, _, _, _, _, _, _, _, _, _, _, _, _, _, _, _, _⟩ := open16 (hval 5 22 v5 rfl rfl) h5
  obtain ⟨withPrev, rfl, rfl, rfl⟩ := open_bool Ybad.underlying4 (hval 6 4 v6 rfl rfl) h6
  obtain ⟨joins, rfl, rfl, rfl, wjs⟩ := open_int Ybad.underlying3 (hval 7 3 v7 rfl rfl) h7
  obtain ⟨⟨z, hz⟩, hLL⟩ := of_laid hL
  have hwz : 2 ≤ W.heap.size := by have := World.block_lt_of_cell? W ⟨1, 0, none⟩ hLL.1; exact this
  have hpb := bounds_u16 wp
  clear hA0 hval0
  refine (law_any join port joins force withPrev x0 x1 x2 x3 x4 x5 x6 x7 x8 x9 x10 x11 x12 x13 x14 x15 k0 k1 k2 k3 k4 k5 k6 k7 k8 k9 k10 k11 k12 k13 k14 k15 e0 e1 e2 e3 e4 e5 e6 e7 e8 e9 e10 e11 e12 e13 e14 e15 z W hx0 hx1 hx2 hx3 hx4 hx5 hx6 hx7 hx8 hx9 hx10 hx11 hx12 hx13 hx14 hx15 hk0 hk1 hk2 hk3 hk4 hk5 hk6 hk7 hk8 hk9 hk10 hk11 hk12 hk13 hk14 hk15 hLL hz hwz (by omega) (by omega)).mono fun e W' ⟨he, bel⟩ => ?_
  subst he
  have hg1 : g = 1 := Option.some.inj (hgn.symm.trans gL)
  subst hg1
  have ht66 : t = 66 := Option.some.inj (hgt.symm.trans tL)
  subst ht66
  have kg : DataW.Trod enc Ybad.prog W 0 (fun _ => true) true 66 (.agg cs) dg pg := ⟨fuel, hdg⟩
  have ltg : ∀ x ∈ pg, x.block < W.heap.size := by obtain ⟨m, hm⟩ := kg; exact DataW.trod_lt m _ _ _ hm
  obtain ⟨fuel', hdg'⟩ := Below.trod laidOut (by kernel_rfl) (of_decide_eq_true (by kernel_rfl)) kg bel ltg
  have rd := fun (t : TypeId) (hr : Ybad.prog.readableRec t = true) (hrow : t < Ybad.prog.types.size) (v : Value) (d : DataW H) (ps : List MemPlace) (h : DataW.Trod enc Ybad.prog W 0 (fun _ => true) true t v d ps) (hlt : ∀ x ∈ ps, x.block < W.heap.size) => Below.trod laidOut hr hrow h bel hlt
  exact ⟨_, rfl, _, _, _, [], _, _, hW', trodAll_mk1 (shut_bool Ybad.underlying4 _),
    (trodAll_cons_mk (rd 3 (by kernel_rfl) (of_decide_eq_true (by kernel_rfl)) _ _ _ rk0 lt0) (trodAll_cons_mk (rd 22 (by kernel_rfl) (of_decide_eq_true (by kernel_rfl)) _ _ _ rk1 lt1) (trodAll_cons_mk (rd 23 (by kernel_rfl) (of_decide_eq_true (by kernel_rfl)) _ _ _ rk2 lt2) (trodAll_cons_mk (rd 4 (by kernel_rfl) (of_decide_eq_true (by kernel_rfl)) _ _ _ rk3 lt3) (trodAll_cons_mk (rd 22 (by kernel_rfl) (of_decide_eq_true (by kernel_rfl)) _ _ _ rk4 lt4) (trodAll_cons_mk (rd 22 (by kernel_rfl) (of_decide_eq_true (by kernel_rfl)) _ _ _ rk5 lt5) (trodAll_cons_mk (rd 4 (by kernel_rfl) (of_decide_eq_true (by kernel_rfl)) _ _ _ rk6 lt6) (trodAll_cons_mk (rd 3 (by kernel_rfl) (of_decide_eq_true (by kernel_rfl)) _ _ _ rk7 lt7) trodAll_mk0)))))))),
    ⟨1, 66, cs, fuel', pg, [], hgn, hgt, var?_below bel hgn (by omega) hvar, hdg', rfl, rfl⟩, bel.frame _, fun h => by cases h⟩

theorem row_holds : Rows.LawS6477CWholeSaid :=
  OpenClaim.holds_of_wide 3 Ybad.f3 rfl rfl rfl rfl rfl rfl rfl ⟨rfl, rfl, rfl, rfl, rfl⟩ rfl rfl rfl rfl rfl (by kernel_rfl) Ybad.func3 (by kernel_rfl)
    (of_decide_eq_true (by kernel_rfl)) (by unfold Func.isWrapper; first | (rw [if_pos (by decide +kernel)]; kernel_rfl) | (rw [if_neg (by decide +kernel)]; exact ⟨rfl, rfl⟩))
    (fun os started H enc _ => lifted os started H enc)
end Go.Proofs.YbulkedcqDoor
