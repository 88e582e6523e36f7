import Derived.Test.YbulkedcqDoorProg
import Derived.WalkKit
import Derived.ChangeKeysEq
namespace Go.Proofs.YbulkedcqDoor
open Go.RowKit

theorem run_part_u8 {P : Program} {e : TypeId} (he : P.underlying e = some (.int .u8)) (xs : List Int) (i : Nat) (hi : i < xs.length) (w : World) :
    (part e (xs.map (Value.int .u8)).toArray i).run P w = .ok (.int .u8 (xs.getD i 0)) w := by
  simp [part, isAgg, run_underlying he, hi]

theorem run_eqItems_u8 {P : Program} {e : TypeId} (d : Nat) (he : P.underlying e = some (.int .u8)) (xs ys : List Int) (w : World) : ∀ is : List Nat, (∀ i ∈ is, i < xs.length ∧ i < ys.length) →
    (Op.eqItems (d + 1) e 1 (xs.map (Value.int .u8)).toArray (ys.map (Value.int .u8)).toArray is).run P w = .ok (is.all fun i => xs.getD i 0 == ys.getD i 0) w
  | [], _ => rfl
  | i :: is, h => by
    have hi := h i (by simp)
    have ih := run_eqItems_u8 d he xs ys w is (fun j hj => h j (by simp [hj]))
    simp only [Op.eqItems, Nat.mul_one, Sem.run_bind, run_part_u8 he xs i hi.1, run_part_u8 he ys i hi.2, Result.andThen_ok]
    have e1 : (Op.equalIn (d + 1) e (.int .u8 (xs.getD i 0)) (.int .u8 (ys.getD i 0))).run P w = .ok (xs.getD i 0 == ys.getD i 0) w := by
      simp [Op.equalIn, run_underlying he]
    rw [e1]
    cases hb : (xs.getD i 0 == ys.getD i 0)
    · simp [-List.getD_eq_getElem?_getD, hb]
    · simp [-List.getD_eq_getElem?_getD, hb, ih]

theorem all_range_eq (xs ys : List Int) (n : Nat) (hx : xs.length = n) (hy : ys.length = n) : ((List.range n).all fun i => xs.getD i 0 == ys.getD i 0) = (xs == ys) := by
  rw [Bool.eq_iff_iff]
  simp only [List.all_eq_true, List.mem_range, beq_iff_eq]
  constructor
  · intro h
    apply List.ext_getElem (by omega)
    intro i h1 h2
    have := h i (by omega)
    simpa [List.getD, h1, h2] using this
  · intro h i _
    rw [h]

/-- '==' of two arrays of bytes. -/
theorem run_equal_u8s {P : Program} {t e : TypeId} {n : Nat} {j : TypeInfo} (ht : P.underlying t = some (.array n e)) (he : P.underlying e = some (.int .u8)) (hj : P.info? e = some j) (hc : P.cellsOf e = 1) (xs ys : List Int) (hx : xs.length = n) (hy : ys.length = n) (w : World) :
    (Op.equal t (.agg (xs.map (Value.int .u8)).toArray) (.agg (ys.map (Value.int .u8)).toArray)).run P w = .ok (xs == ys) w := by
  unfold Op.equal Op.maxDepth
  rw [run_equalIn_array w 9999 _ _ ht hj, hc, run_eqItems_u8 9998 he xs ys w _ (fun i hi => by simp at hi; omega), all_range_eq xs ys n hx hy]

theorem info5 : ∃ j, Ybad.prog.info? 5 = some j := by
  have h : (Ybad.prog.info? 5).map (fun i => i.size) = some 1 := by kernel_rfl
  obtain ⟨j, hj, _⟩ := Option.map_eq_some_iff.1 h
  exact ⟨j, hj⟩
theorem cells5 : Ybad.prog.cellsOf 5 = 1 := by kernel_rfl

theorem neq_u8s {t n : Nat} (ht : Ybad.prog.underlying t = some (.array n 5)) (xs ys : List Int) (hx : xs.length = n) (hy : ys.length = n) (w : World) :
    (binOp .neq t (.agg (xs.map (Value.int .u8)).toArray) (.agg (ys.map (Value.int .u8)).toArray)).run Ybad.prog w = .ok (.bool (!(xs == ys))) w := by
  obtain ⟨j, hj⟩ := info5
  simp only [binOp]
  simp [run_equal_u8s ht Ybad.underlying5 hj cells5 xs ys hx hy]
theorem eql_u8s {t n : Nat} (ht : Ybad.prog.underlying t = some (.array n 5)) (xs ys : List Int) (hx : xs.length = n) (hy : ys.length = n) (w : World) :
    (binOp .eql t (.agg (xs.map (Value.int .u8)).toArray) (.agg (ys.map (Value.int .u8)).toArray)).run Ybad.prog w = .ok (.bool (xs == ys)) w := by
  obtain ⟨j, hj⟩ := info5
  simp only [binOp]
  simp [run_equal_u8s ht Ybad.underlying5 hj cells5 xs ys hx hy]
end Go.Proofs.YbulkedcqDoor
