import Derived.Test.YbulkedjqHeap
import Derived.ChangeKeysEq
namespace Go.Proofs.Ybulkedjq
open Go.RowKit

theorem eqItems_same {P : Program} {d e s : Nat} {xs : Array Value} {w : World} : ∀ is : List Nat, (∀ i ∈ is, ∃ a, (part e xs (i * s)).run P w = .ok a w ∧ (Op.equalIn d e a a).run P w = .ok true w) → (Op.eqItems d e s xs xs is).run P w = .ok true w
  | [], _ => rfl
  | i :: is, h => by
    obtain ⟨a, h1, h2⟩ := h i (by simp)
    have ih := eqItems_same is (fun j hj => h j (by simp [hj]))
    simp only [Op.eqItems]
    simp [h1, h2, ih]

theorem eqFields_same {P : Program} {d : Nat} {xs : Array Value} {w : World} : ∀ fs : List Field, (∀ f ∈ fs, ∃ a, (part f.type xs f.offset).run P w = .ok a w ∧ (Op.equalIn d f.type a a).run P w = .ok true w) → (Op.eqFields d xs xs fs).run P w = .ok true w
  | [], _ => rfl
  | f :: fs, h => by
    obtain ⟨a, h1, h2⟩ := h f (by simp)
    have ih := eqFields_same fs (fun g hg => h g (by simp [hg]))
    simp only [Op.eqFields]
    split
    · simp [h1, h2, ih]
    · exact ih

theorem info2 : ∃ j, Yba.prog.info? 2 = some j := by
  have h : (Yba.prog.info? 2).map (fun i => i.size) = some 1 := by kernel_rfl
  obtain ⟨j, hj, _⟩ := Option.map_eq_some_iff.1 h
  exact ⟨j, hj⟩
theorem info33 : ∃ j, Yba.prog.info? 33 = some j := by
  have h : (Yba.prog.info? 33).map (fun i => i.size) = some 2 := by kernel_rfl
  obtain ⟨j, hj, _⟩ := Option.map_eq_some_iff.1 h
  exact ⟨j, hj⟩
theorem cells2 : Yba.prog.cellsOf 2 = 1 := by kernel_rfl
theorem cells33 : Yba.prog.cellsOf 33 = 2 := by kernel_rfl
theorem fields33 : (Yba.prog.fieldsOf 33).toList.map (fun f => (f.type, f.offset)) = [(2, 0), (2, 1)] := by kernel_rfl
theorem struct33 : Yba.prog.underlying 33 = some (.struct (Yba.prog.fieldsOf 33)) := by kernel_rfl
theorem stood33 : Yba.prog.stoodInHeld 33 = false := by kernel_rfl

theorem part2 (xs : Array Value) (i : Nat) (v : Value) (h : xs[i]? = some v) (w : World) : (part 2 xs i).run Yba.prog w = .ok v w := by
  have hi : i < xs.size := (Array.getElem?_eq_some_iff.1 h).1
  have he : xs[i] = v := (Array.getElem?_eq_some_iff.1 h).2
  simp [part, isAgg, run_underlying Yba.underlying2, hi, he]
theorem eq2 (d : Nat) (a : Int) (w : World) : (Op.equalIn (d + 1) 2 (.int .i64 a) (.int .i64 a)).run Yba.prog w = .ok true w := by
  rw [run_equalIn_int w d 2 .i64 .i64 a a Yba.underlying2]; simp

theorem eq33 (d : Nat) (a b : Int) (w : World) : (Op.equalIn (d + 1 + 1) 33 (.agg #[.int .i64 a, .int .i64 b]) (.agg #[.int .i64 a, .int .i64 b])).run Yba.prog w = .ok true w := by
  rw [run_equalIn_struct w _ 33 _ _ struct33 stood33]
  refine eqFields_same _ fun f hf => ?_
  have hm : (f.type, f.offset) ∈ (Yba.prog.fieldsOf 33).toList.map (fun f => (f.type, f.offset)) := List.mem_map.2 ⟨f, hf, rfl⟩
  rw [fields33] at hm
  simp only [List.mem_cons, Prod.mk.injEq, List.not_mem_nil, or_false] at hm
  rcases hm with ⟨h1, h2⟩ | ⟨h1, h2⟩
  · rw [h1, h2]; exact ⟨_, part2 _ _ _ rfl w, eq2 d a w⟩
  · rw [h1, h2]; exact ⟨_, part2 _ _ _ rfl w, eq2 d b w⟩

theorem size33 : Yba.t33.size = 2 := by kernel_rfl
theorem part33 (a b c d e f : Int) (i : Nat) (hi : i < 3) (w : World) : ∃ x y : Int, (part 33 #[.int .i64 a, .int .i64 b, .int .i64 c, .int .i64 d, .int .i64 e, .int .i64 f] (i * 2)).run Yba.prog w = .ok (.agg #[.int .i64 x, .int .i64 y]) w := by
  match i, hi with
  | 0, _ => exact ⟨a, b, by simp [part, isAgg, run_underlying Yba.underlying33, sizeOf, size33]⟩
  | 1, _ => exact ⟨c, d, by simp [part, isAgg, run_underlying Yba.underlying33, sizeOf, size33]⟩
  | 2, _ => exact ⟨e, f, by simp [part, isAgg, run_underlying Yba.underlying33, sizeOf, size33]⟩

theorem neq31 (x y z : Int) (w : World) : (binOp .neq 31 (.agg #[.int .i64 x, .int .i64 y, .int .i64 z]) (.agg #[.int .i64 x, .int .i64 y, .int .i64 z])).run Yba.prog w = .ok (.bool false) w := by
  obtain ⟨j, hj⟩ := info2
  have h : (Op.equal 31 (.agg #[.int .i64 x, .int .i64 y, .int .i64 z]) (.agg #[.int .i64 x, .int .i64 y, .int .i64 z])).run Yba.prog w = .ok true w := by
    unfold Op.equal Op.maxDepth
    rw [run_equalIn_array w 9999 _ _ Yba.underlying31 hj, cells2]
    refine eqItems_same _ fun i hi => ?_
    rw [Nat.mul_one]
    have hi : i < 3 := by simpa using hi
    match i, hi with
    | 0, _ => exact ⟨_, part2 _ _ _ rfl w, eq2 _ x w⟩
    | 1, _ => exact ⟨_, part2 _ _ _ rfl w, eq2 _ y w⟩
    | 2, _ => exact ⟨_, part2 _ _ _ rfl w, eq2 _ z w⟩
  simp only [binOp]
  simp [h]

theorem neq34 (a b c d e f : Int) (w : World) : (binOp .neq 34 (.agg #[.int .i64 a, .int .i64 b, .int .i64 c, .int .i64 d, .int .i64 e, .int .i64 f]) (.agg #[.int .i64 a, .int .i64 b, .int .i64 c, .int .i64 d, .int .i64 e, .int .i64 f])).run Yba.prog w = .ok (.bool false) w := by
  obtain ⟨j, hj⟩ := info33
  have h : (Op.equal 34 (.agg #[.int .i64 a, .int .i64 b, .int .i64 c, .int .i64 d, .int .i64 e, .int .i64 f]) (.agg #[.int .i64 a, .int .i64 b, .int .i64 c, .int .i64 d, .int .i64 e, .int .i64 f])).run Yba.prog w = .ok true w := by
    unfold Op.equal Op.maxDepth
    rw [run_equalIn_array w 9999 _ _ Yba.underlying34 hj, cells33]
    refine eqItems_same _ fun i hi => ?_
    have hi : i < 3 := by simpa using hi
    obtain ⟨x, y, hp⟩ := part33 a b c d e f i hi w
    exact ⟨_, hp, eq33 _ x y w⟩
  simp only [binOp]
  simp [h]
end Go.Proofs.Ybulkedjq
