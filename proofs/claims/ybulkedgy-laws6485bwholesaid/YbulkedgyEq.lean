import Derived.Test.YbulkedgyStage
import Derived.WalkKit
import Derived.ChangeKeysEq
namespace Go.Proofs.Ybulkedgy
open Go.RowKit

theorem run_part_u8 {P : Program} {e : TypeId} (he : P.underlying e = some (.int .u8)) (xs : List Int) (i : Nat) (hi : i < xs.length) (w : World) :
    (part e (xs.map (Value.int .u8)).toArray i).run P w = .ok (.int .u8 (xs.getD i 0)) w := by
  simp [part, isAgg, run_underlying he, hi]

theorem run_eqItems_u8 {P : Program} {e : TypeId} (d : Nat) (he : P.underlying e = some (.int .u8)) (xs ys : List Int) (w : World) : ∀ is : List Nat, (∀ i ∈ is, i < xs.length ∧ i < ys.length) →
    (Op.eqItems (d + 1) e 1 (xs.map (Value.int .u8)).toArray (ys.map (Value.int .u8)).toArray is).run P w = .ok (is.all fun i => xs.getD i 0 == ys.getD i 0) w
  | [], _ => rfl
  | i :: is, h => by
    have hi := h i (by simp)
    have ih := run_eqItems_u8 d he xs ys w is (fun j hj => h j (by simp [hj]))
    simp only [Op.eqItems, Nat.mul_one, Sem.run_bind, run_part_u8 he xs i hi.1, run_part_u8 he ys i hi.2, Result.andThen_ok]
    have e1 : (Op.equalIn (d + 1) e (.int .u8 (xs.getD i 0)) (.int .u8 (ys.getD i 0))).run P w = .ok (xs.getD i 0 == ys.getD i 0) w := by
      simp [Op.equalIn, run_underlying he]
    rw [e1]
    cases hb : (xs.getD i 0 == ys.getD i 0)
    · simp [-List.getD_eq_getElem?_getD, hb]
    · simp [-List.getD_eq_getElem?_getD, hb, ih]

theorem all_range_eq (xs ys : List Int) (n : Nat) (hx : xs.length = n) (hy : ys.length = n) : ((List.range n).all fun i => xs.getD i 0 == ys.getD i 0) = (xs == ys) := by
  rw [Bool.eq_iff_iff]
  simp only [List.all_eq_true, List.mem_range, beq_iff_eq]
  constructor
  · intro h
    apply List.ext_getElem (by omega)
    intro i h1 h2
    have := h i (by omega)
    simpa [List.getD, h1, h2] using this
  · intro h i _
    rw [h]

/-- '==' of two arrays of bytes. -/
theorem run_equal_u8s {P : Program} {t e : TypeId} {n : Nat} {j : TypeInfo} (ht : P.underlying t = some (.array n e)) (he : P.underlying e = some (.int .u8)) (hj : P.info? e = some j) (hc : P.cellsOf e = 1) (xs ys : List Int) (hx : xs.length = n) (hy : ys.length = n) (w : World) :
    (Op.equal t (.agg (xs.map (Value.int .u8)).toArray) (.agg (ys.map (Value.int .u8)).toArray)).run P w = .ok (xs == ys) w := by
  unfold Op.equal Op.maxDepth
  rw [run_equalIn_array w 9999 _ _ ht hj, hc, run_eqItems_u8 9998 he xs ys w _ (fun i hi => by simp at hi; omega), all_range_eq xs ys n hx hy]

theorem info5 : ∃ j, Yba.prog.info? 5 = some j := by
  have h : (Yba.prog.info? 5).map (fun i => i.size) = some 1 := by kernel_rfl
  obtain ⟨j, hj, _⟩ := Option.map_eq_some_iff.1 h
  exact ⟨j, hj⟩
theorem cells5 : Yba.prog.cellsOf 5 = 1 := by kernel_rfl

theorem neq_u8s {t n : Nat} (ht : Yba.prog.underlying t = some (.array n 5)) (xs ys : List Int) (hx : xs.length = n) (hy : ys.length = n) (w : World) :
    (binOp .neq t (.agg (xs.map (Value.int .u8)).toArray) (.agg (ys.map (Value.int .u8)).toArray)).run Yba.prog w = .ok (.bool (!(xs == ys))) w := by
  obtain ⟨j, hj⟩ := info5
  simp only [binOp]
  simp [run_equal_u8s ht Yba.underlying5 hj cells5 xs ys hx hy]
theorem eql_u8s {t n : Nat} (ht : Yba.prog.underlying t = some (.array n 5)) (xs ys : List Int) (hx : xs.length = n) (hy : ys.length = n) (w : World) :
    (binOp .eql t (.agg (xs.map (Value.int .u8)).toArray) (.agg (ys.map (Value.int .u8)).toArray)).run Yba.prog w = .ok (.bool (xs == ys)) w := by
  obtain ⟨j, hj⟩ := info5
  simp only [binOp]
  simp [run_equal_u8s ht Yba.underlying5 hj cells5 xs ys hx hy]

/-- What a System holds once the twenty-five bytes x are read into it. -/
def sysL (x : Nat → Int) : List Value :=
  [.int .u8 (x 1 / 4 % 8), .int .u8 (x 1 % 4), .float .f64 (deg4 (x 2) (x 3) (x 4) (x 5)), .float .f64 (deg4 (x 6) (x 7) (x 8) (x 9)), .int .u16 (le2 (x 18) (x 19)), .int .i64 (le2 (x 10) (x 11)), .int .i64 (x 12 * 10),
   .int .u16 (le2 (x 13) (x 14)), .int .u16 (le2 (x 15) (x 16)), .int .u8 (x 17 / 16), .int .u8 (x 17 % 16), .int .u32 (le4 (x 20) (x 21) (x 22) (x 23))]

theorem sysL_range {w w' : World} {sb : Nat} {F : Nat → Value} (x : Nat → Int) (h : One w sb F w') (h0 : F 0 = .int .u8 (x 1 / 4 % 8)) (h1 : F 1 = .int .u8 (x 1 % 4)) (h2 : F 2 = .float .f64 (deg4 (x 2) (x 3) (x 4) (x 5))) (h3 : F 3 = .float .f64 (deg4 (x 6) (x 7) (x 8) (x 9)))
    (h4 : F 4 = .int .u16 (le2 (x 18) (x 19))) (h5 : F 5 = .int .i64 (le2 (x 10) (x 11))) (h6 : F 6 = .int .i64 (x 12 * 10)) (h7 : F 7 = .int .u16 (le2 (x 13) (x 14))) (h8 : F 8 = .int .u16 (le2 (x 15) (x 16))) (h9 : F 9 = .int .u8 (x 17 / 16)) (h10 : F 10 = .int .u8 (x 17 % 16)) (h11 : F 11 = .int .u32 (le4 (x 20) (x 21) (x 22) (x 23))) :
    w'.rangeAt sb 0 (sysL x) := by
  intro j v hv
  have hj : j < 12 := (List.getElem?_eq_some_iff.1 hv).1
  rw [Nat.zero_add, h.cur j hj, ← hv]
  match j, hj with
  | 0, _ => exact congrArg some h0
  | 1, _ => exact congrArg some h1
  | 2, _ => exact congrArg some h2
  | 3, _ => exact congrArg some h3
  | 4, _ => exact congrArg some h4
  | 5, _ => exact congrArg some h5
  | 6, _ => exact congrArg some h6
  | 7, _ => exact congrArg some h7
  | 8, _ => exact congrArg some h8
  | 9, _ => exact congrArg some h9
  | 10, _ => exact congrArg some h10
  | 11, _ => exact congrArg some h11

theorem deg4_eq (a b c d : Int) : Op.floatEq .f64 (deg4 a b c d) (deg4 a b c d) = true := degrees_eq _

theorem eqFields_same {P : Program} {d : Nat} {xs : Array Value} {w : World} : ∀ fs : List Field, (∀ f ∈ fs, ∃ a, (part f.type xs f.offset).run P w = .ok a w ∧ (Op.equalIn d f.type a a).run P w = .ok true w) → (Op.eqFields d xs xs fs).run P w = .ok true w
  | [], _ => rfl
  | f :: fs, h => by
    obtain ⟨a, h1, h2⟩ := h f (by simp)
    have ih := eqFields_same fs (fun g hg => h g (by simp [hg]))
    simp only [Op.eqFields]
    split
    · simp [h1, h2, ih]
    · exact ih

theorem fields36 : (Yba.prog.fieldsOf 36).toList.map (fun f => (f.type, f.offset)) = [(5, 0), (5, 1), (31, 2), (33, 4), (3, 5), (3, 6), (33, 7), (33, 8), (5, 9), (5, 10), (34, 11)] := by kernel_rfl
theorem fields31 : (Yba.prog.fieldsOf 31).toList.map (fun f => (f.type, f.offset)) = [(29, 0), (29, 1)] := by kernel_rfl
theorem struct36 : Yba.prog.underlying 36 = some (.struct (Yba.prog.fieldsOf 36)) := by kernel_rfl
theorem struct31 : Yba.prog.underlying 31 = some (.struct (Yba.prog.fieldsOf 31)) := by kernel_rfl
theorem stood36 : Yba.prog.stoodInHeld 36 = false := by kernel_rfl
theorem stood31 : Yba.prog.stoodInHeld 31 = false := by kernel_rfl

theorem eq_float (d : Nat) (b : Nat) (h : Op.floatEq .f64 b b = true) (w : World) : (Op.equalIn (d + 1) 29 (.float .f64 b) (.float .f64 b)).run Yba.prog w = .ok true w := by
  simp [Op.equalIn, run_underlying Yba.underlying29, h]

theorem eq_pos (d : Nat) (a b : Nat) (ha : Op.floatEq .f64 a a = true) (hb : Op.floatEq .f64 b b = true) (w : World) : (Op.equalIn (d + 1 + 1) 31 (.agg #[.float .f64 a, .float .f64 b]) (.agg #[.float .f64 a, .float .f64 b])).run Yba.prog w = .ok true w := by
  rw [run_equalIn_struct w _ 31 _ _ struct31 stood31]
  refine eqFields_same _ fun f hf => ?_
  have hm : (f.type, f.offset) ∈ (Yba.prog.fieldsOf 31).toList.map (fun f => (f.type, f.offset)) := List.mem_map.2 ⟨f, hf, rfl⟩
  rw [fields31] at hm
  simp only [List.mem_cons, Prod.mk.injEq, List.not_mem_nil, or_false] at hm
  rcases hm with ⟨h1, h2⟩ | ⟨h1, h2⟩
  · rw [h1, h2]; exact ⟨.float .f64 a, by simp [part, isAgg, run_underlying Yba.underlying29], eq_float d a ha w⟩
  · rw [h1, h2]; exact ⟨.float .f64 b, by simp [part, isAgg, run_underlying Yba.underlying29], eq_float d b hb w⟩

theorem part_one {t : TypeId} {k : IntKind} (ht : Yba.prog.underlying t = some (.int k)) (xs : Array Value) (i : Nat) (v : Value) (h : xs[i]? = some v) (w : World) : (part t xs i).run Yba.prog w = .ok v w := by
  have hi : i < xs.size := (Array.getElem?_eq_some_iff.1 h).1
  have he : xs[i] = v := (Array.getElem?_eq_some_iff.1 h).2
  simp [part, isAgg, run_underlying ht, hi, he]
theorem eq_int {t : TypeId} {k : IntKind} (ht : Yba.prog.underlying t = some (.int k)) (d : Nat) {k' : IntKind} (a : Int) (w : World) : (Op.equalIn (d + 1) t (.int k' a) (.int k' a)).run Yba.prog w = .ok true w := by
  rw [run_equalIn_int w d t k' k a a ht]; simp
theorem size31 : Yba.t31.size = 2 := by kernel_rfl
theorem part_pos (x : Nat → Int) (w : World) : (part 31 (sysL x).toArray 2).run Yba.prog w = .ok (.agg #[.float .f64 (deg4 (x 2) (x 3) (x 4) (x 5)), .float .f64 (deg4 (x 6) (x 7) (x 8) (x 9))]) w := by
  simp [part, isAgg, run_underlying Yba.underlying31, sizeOf, sysL, size31]

theorem eq_sys (x : Nat → Int) (w : World) : (Op.equalIn 10000 36 (.agg (sysL x).toArray) (.agg (sysL x).toArray)).run Yba.prog w = .ok true w := by
  rw [run_equalIn_struct w 9999 36 _ _ struct36 stood36]
  refine eqFields_same _ fun f hf => ?_
  have hm : (f.type, f.offset) ∈ (Yba.prog.fieldsOf 36).toList.map (fun f => (f.type, f.offset)) := List.mem_map.2 ⟨f, hf, rfl⟩
  rw [fields36] at hm
  simp only [List.mem_cons, Prod.mk.injEq, List.not_mem_nil, or_false] at hm
  rcases hm with ⟨h1, h2⟩ | ⟨h1, h2⟩ | ⟨h1, h2⟩ | ⟨h1, h2⟩ | ⟨h1, h2⟩ | ⟨h1, h2⟩ | ⟨h1, h2⟩ | ⟨h1, h2⟩ | ⟨h1, h2⟩ | ⟨h1, h2⟩ | ⟨h1, h2⟩
  · rw [h1, h2]; exact ⟨_, part_one Yba.underlying5 _ 0 _ rfl w, eq_int Yba.underlying5 9998 _ w⟩
  · rw [h1, h2]; exact ⟨_, part_one Yba.underlying5 _ 1 _ rfl w, eq_int Yba.underlying5 9998 _ w⟩
  · rw [h1, h2]; exact ⟨.agg #[.float .f64 (deg4 (x 2) (x 3) (x 4) (x 5)), .float .f64 (deg4 (x 6) (x 7) (x 8) (x 9))], part_pos x w, eq_pos 9997 _ _ (deg4_eq ..) (deg4_eq ..) w⟩
  · rw [h1, h2]; exact ⟨_, part_one Yba.underlying33 _ 4 _ rfl w, eq_int Yba.underlying33 9998 _ w⟩
  · rw [h1, h2]; exact ⟨_, part_one Yba.underlying3 _ 5 _ rfl w, eq_int Yba.underlying3 9998 _ w⟩
  · rw [h1, h2]; exact ⟨_, part_one Yba.underlying3 _ 6 _ rfl w, eq_int Yba.underlying3 9998 _ w⟩
  · rw [h1, h2]; exact ⟨_, part_one Yba.underlying33 _ 7 _ rfl w, eq_int Yba.underlying33 9998 _ w⟩
  · rw [h1, h2]; exact ⟨_, part_one Yba.underlying33 _ 8 _ rfl w, eq_int Yba.underlying33 9998 _ w⟩
  · rw [h1, h2]; exact ⟨_, part_one Yba.underlying5 _ 9 _ rfl w, eq_int Yba.underlying5 9998 _ w⟩
  · rw [h1, h2]; exact ⟨_, part_one Yba.underlying5 _ 10 _ rfl w, eq_int Yba.underlying5 9998 _ w⟩
  · rw [h1, h2]; exact ⟨_, part_one Yba.underlying34 _ 11 _ rfl w, eq_int Yba.underlying34 9998 _ w⟩
end Go.Proofs.Ybulkedgy
