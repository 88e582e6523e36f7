/-
  The proof of 'Rows.LawS6485BWholeSaid': the frame; the walk is YbulkedgyWalkB's.
-/
import Derived.Test.YbulkedgyRows
import Derived.WalkKit
import Derived.ProofKit
import Derived.OpenShut
import Derived.ShutString
import Derived.ChangeOld
import Derived.Below
import Derived.Test.YbulkedgyWalkB
namespace Go.Proofs.Ybulkedgy.lawS6485BWhole
open Go.ChangeShapes Go.WideShapes Go.ChangeAt Go.RowKit
set_option linter.unusedVariables false

theorem own : ownKnob Yba.prog.godebug = none := by kernel_rfl
theorem laidOut : laidOutB Yba.prog = true := by kernel_rfl
theorem cells28 : Yba.prog.cellsOf 28 = 25 := by kernel_rfl
theorem cells36 : Yba.prog.cellsOf 36 = 12 := by kernel_rfl

def cellInt : Option Value → Int
  | some (.int _ z) => z
  | _ => 0

/-- An array of bytes, opened. -/
theorem open_u8s {H : Type} {enc : TypeId × Value → H} {P : Program} {w : World} {base : Nat} {sp : Nat → Bool} {held : Bool} {fuel n t : Nat} {cs : List Value} {x : DataW H × List MemPlace} (ht : P.underlying t = some (.array n 5)) (h5 : P.underlying 5 = some (.int .u8)) (c5 : P.cellsOf 5 = 1) (ct : P.cellsOf t = n)
    (h : DataW.trod enc P w base sp held fuel t cs = some x) : ∃ zs : List Int, zs.length = n ∧ cs = zs.map (Value.int .u8) ∧ ∀ z ∈ zs, (Lit.int .u8 z).wf = true := by
  obtain ⟨xs, m, rfl, hx, hlen, hn, hel⟩ := DataW.trod_array ht h
  rw [ct] at hlen
  have key : ∀ i, i < n → ∃ z, cs[i]? = some (.int .u8 z) ∧ (Lit.int .u8 z).wf = true := by
    intro i hi
    have e := hel i hi
    rw [c5, Nat.mul_one] at e
    have hxi : xs[i]? = some xs[i] := List.getElem?_eq_getElem (by omega)
    rw [hxi] at e
    obtain ⟨z, e1, e2, wz⟩ := DataW.trod_int h5 e
    refine ⟨z, ?_, wz⟩
    have e3 : (List.take 1 (List.drop i cs))[0]? = cs[i]? := by simp
    rw [← e3, e1]; rfl
  refine ⟨(List.range n).map fun i => cellInt cs[i]?, by simp, ?_, ?_⟩
  · apply List.ext_getElem? ; intro i
    by_cases hi : i < n
    · obtain ⟨z, h1, _⟩ := key i hi
      simp [hi, h1, cellInt]
    · rw [List.getElem?_eq_none (by omega), List.getElem?_eq_none (by simp; omega)]
  · intro z hz
    simp only [List.mem_map, List.mem_range] at hz
    obtain ⟨i, hi, rfl⟩ := hz
    obtain ⟨z, h1, wz⟩ := key i hi
    rw [h1]; exact wz

theorem okWide_u8s {W : World} {base n t : Nat} {r : Reach} {v : Value} (ht : Yba.prog.underlying t = some (.array n 5)) (h : Value.okWide Yba.prog W r base t v) : ∃ cs, v = .agg cs := by
  simp only [Value.okWide, ht] at h
  obtain ⟨cs, h1, _⟩ := h
  exact ⟨cs, h1⟩

/-- What may stand in a cell is no aggregate. -/
theorem oneCell_of_okWide {P : Program} {w : World} {r : Reach} {base : Nat} {t : TypeId} {v : Value} (h : Cell.okWide P w r base t v) : v.oneCell' = true := by
  cases v <;> first
    | rfl
    | (exfalso
       unfold Cell.okWide at h
       split at h <;> first | (simp_all; done) | (unfold Cell.ok at h; split at h <;> simp_all))

/-- A System as it comes in: twelve cells, none of them an aggregate. -/
theorem open_sys {W : World} {base : Nat} {r : Reach} {v : Value} (h : Value.okWide Yba.prog W r base 36 v) : ∃ ss : List Value, v = .agg ss.toArray ∧ ss.length = 12 ∧ ∀ u ∈ ss, u.oneCell' = true := by
  have h' : ∃ cs, v = .agg cs ∧ cs.size = Yba.prog.cellsOf 36 ∧ Row.okWide Yba.prog W r base 36 cs := by
    simpa only [Value.okWide, struct36] using h
  obtain ⟨cs, rfl, hs, ts, _, _, hc⟩ := h'
  refine ⟨cs.toList, by simp, by rw [Array.length_toList, hs, cells36], fun u hu => ?_⟩
  obtain ⟨i, hi⟩ := List.getElem?_of_mem hu
  obtain ⟨t, _, ht⟩ := hc i u (by simpa using hi)
  exact oneCell_of_okWide ht

theorem walk (zs : List Int) (ss : List Value) (w : World) (hz : zs.length = 25) (hw : ∀ z ∈ zs, (Lit.int .u8 z).wf = true) (hl : ss.length = 12) (h1 : ∀ u ∈ ss, u.oneCell' = true) :
    Calls Yba.prog 4 #[.agg (zs.map (Value.int .u8)).toArray, .agg ss.toArray] w fun e w' => e = .returned (.bool true) ∧ Below w.heap.size w w' := by
  have hB : ∀ i, IsB (zs.getD i 0) := fun i => by
    by_cases hi : i < zs.length
    · have := bounds_u8 (hw (zs.getD i 0) (by simp [List.getD, hi]))
      exact ⟨by omega, by omega⟩
    · have e : zs.getD i 0 = 0 := by simp [List.getD, List.getElem?_eq_none (Nat.le_of_not_lt hi)]
      rw [e]; exact ⟨by omega, by omega⟩
  obtain ⟨j, hj⟩ := info5
  refine lawB_any (fun i => zs.getD i 0) hB _ ss (fun i hi => ?_) (fun w => ?_) (by simpa using hz) hl ?_ h1 w
  · simp [List.getD, show i < zs.length by omega]
  · have := run_equal_u8s (P := Yba.prog) Yba.underlying37 Yba.underlying5 hj cells5 zs zs hz hz w
    simpa [Op.equal, Op.maxDepth] using this
  · intro u hu
    simp only [List.mem_map] at hu
    obtain ⟨z, _, rfl⟩ := hu
    rfl

set_option maxRecDepth 100000 in
theorem lifted (os : Os) (started : os.Started) (H : Type) (enc : TypeId × Value → H) :
    ReturnsInHanded {} Yba.checked os 4 .any (Rows.lawS6485BWholeSpec.pre6 enc Yba.prog Yba.f4 Rows.lawS6485BWholeRow.domain false) (Rows.lawS6485BWholeSpec.post enc Yba.prog Yba.f4 false true false false) := by
  refine returnsInHanded_of_change (C := Yba.checked) own started (by kernel_rfl) Yba.func4
    (ChangeSpec.witness6 (enc := enc) (C := Yba.checked) false ⟨#[], #[.agg zero25, .agg zero12], []⟩ 8 (by kernel_rfl) (by kernel_rfl) (by kernel_rfl) (by kernel_rfl)) ?_
  intro W base args ds gs before hval0 hW hcnd _
  have hval : ∀ (j : Nat) t v, Yba.f4.params[j]? = some t → args[j]? = some v → Value.okWide Yba.prog W .any base t v := hval0
  have hW' := hW
  obtain ⟨p, q, hA0, hV, rfl, hfz, hnd⟩ := hW
  have hA : DataW.TrodAll enc Yba.prog W 0 (fun _ => true) true Yba.f4.params.toList args.toList ds p := hA0
  rw [Yba.params4] at hA hval
  obtain ⟨v0, vs0, d0, ds0, p0, q0, hargs, rfl, rfl, h0, r0⟩ := trodAll_cons hA
  obtain ⟨v1, vs1, d1, ds1, p1, q1, rfl, rfl, rfl, h1, r1⟩ := trodAll_cons r0
  obtain ⟨rfl, rfl, rfl⟩ := trodAll_nil r1
  obtain rfl : args = #[v0, v1] := by cases args; simp_all
  obtain ⟨rfl, rfl⟩ := trodVars_none hV
  have k0 := h0
  have lt0 : ∀ x ∈ p0, x.block < W.heap.size := by obtain ⟨m, hm⟩ := k0; exact DataW.trod_lt m _ _ _ hm
  have k1 := h1
  have lt1 : ∀ x ∈ p1, x.block < W.heap.size := by obtain ⟨m, hm⟩ := k1; exact DataW.trod_lt m _ _ _ hm
  obtain ⟨cs, rfl⟩ := okWide_u8s Yba.underlying28 (hval 0 28 v0 rfl rfl)
  obtain ⟨ss, rfl, hsl, hs1⟩ := open_sys (hval 1 36 v1 rfl rfl)
  obtain ⟨zs, hzl, hzs, hzw⟩ : ∃ zs : List Int, zs.length = 25 ∧ cs.toList = zs.map (Value.int .u8) ∧ ∀ z ∈ zs, (Lit.int .u8 z).wf = true := by
    obtain ⟨fuel, hf⟩ := h0
    exact open_u8s Yba.underlying28 Yba.underlying5 cells5 cells28 hf
  obtain rfl : cs = (zs.map (Value.int .u8)).toArray := Array.ext' (by simpa using hzs)
  clear hA0 hval0
  refine (walk zs ss W hzl hzw hsl hs1).mono fun e W' ⟨he, bel⟩ => ?_
  subst he
  exact ⟨_, rfl, _, _, _, [], _, [], hW', trodAll_mk1 (shut_bool Yba.underlying4 _), (trodAll_cons_mk (Below.trod laidOut (by kernel_rfl) (of_decide_eq_true (by kernel_rfl)) k0 bel lt0) (trodAll_cons_mk (Below.trod laidOut (by kernel_rfl) (of_decide_eq_true (by kernel_rfl)) k1 bel lt1) trodAll_mk0)), rfl, bel.frame _, fun h => by cases h⟩

theorem over : Rows.lawS6485BWholeRow.holds Yba.pinned (OpenSpec.ofChange Rows.lawS6485BWholeSpec) :=
  OpenClaim.holds_of_wide 4 Yba.f4 rfl rfl rfl rfl rfl rfl rfl ⟨rfl, rfl, rfl, rfl, rfl⟩ rfl rfl rfl rfl rfl (by kernel_rfl) Yba.func4 (by kernel_rfl)
    (of_decide_eq_true (by kernel_rfl)) (by unfold Func.isWrapper; first | (rw [if_pos (by decide +kernel)]; kernel_rfl) | (rw [if_neg (by decide +kernel)]; exact ⟨rfl, rfl⟩))
    (fun os started H enc _ => lifted os started H enc)

theorem proved : Rows.LawS6485BWholeSaid := over
end Go.Proofs.Ybulkedgy.lawS6485BWhole
