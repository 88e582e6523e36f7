import Derived.Test.YbulkedjqCmp
import Derived.Shelf.SlSortCmp.NoneTotal
import Derived.Shelf.Lay
import Derived.Ground.SlsfProg
namespace Go.Proofs.Ybulkedjq
open Go.Shelf Go.RowKit Go.Lib Go.Sort
set_option maxRecDepth 100000 in
shelf_lay_g SlLaysF.n6 Slsf 6 at Yba 6 as Yba.sortP

/-- A pointer to block b. -/
def ptr (b : Nat) : Value := .pointer (some ⟨b, 0, none⟩)

theorem keep_sortWorld {α : Type} [Inhabited α] (enc : α → Value) (w : World) (blk off m : Nat) (dk : Array α) (os : Array Obj) : Keep (· = blk) w (sortWorld enc w blk off m dk os) := by
  refine ⟨rfl, rfl, rfl, ?_, fun k hk hT => ?_⟩
  · simp [sortWorld, putRow, mapBlock, Sort.ahead]
  · unfold sortWorld
    rw [heap_grow_old _ _ (by simpa [putRow, mapBlock, Sort.ahead] using hk)]
    simp only [putRow, mapBlock, Sort.ahead, Array.getElem?_modify]
    rw [if_neg (fun e => hT e.symm)]

theorem lt_cmpI (x y : Int) : decide (cmpI x y < 0) = decide (x < y) := by
  unfold cmpI
  by_cases h1 : x < y
  · simp [h1]
  · by_cases h2 : y < x <;> simp [h1, h2]

theorem swo_by (f : Nat → Int) : SWO (ltOf fun x y => cmpI (f x) (f y)) where
  irrefl x := by simp [ltOf, lt_cmpI]
  trans x y z h1 h2 := by simp only [ltOf, lt_cmpI, decide_eq_true_eq] at *; omega
  ntrans x y z h1 h2 := by simp only [ltOf, lt_cmpI, decide_eq_false_iff_not] at *; omega

/-- slices.SortFunc over pointers to the blocks pb + i, by what their first cell holds. -/
theorem sort_some (pb n : Nat) (S : Nat → Int) (blk cap : Nat) (c : List Nat) (w : World) (hn : 0 < n) (hc : ∀ i ∈ c, i < n) (hS : ∀ i, i < n → w.cell? ⟨pb + i, 0, none⟩ = some (.int .i64 (S i)))
    (hrow : ∀ j, j < c.length → w.cell? ⟨blk, j, none⟩ = some (ptr (pb + c.getD j 0)) ∧ w.frozen? ⟨blk, j, none⟩ = false) (hsep : ∀ i, i < n → pb + i ≠ blk) (hblk : blk < w.heap.size) (hsz : c.length < 4611686018427387904) :
    Calls Yba.prog 6 #[.slice (some ⟨blk, 0, none⟩) c.length cap, .func (.func 7) #[] #[]] w fun e w' => e = .returned (.tuple #[]) ∧ ∃ c' : List Nat, c'.Perm c ∧
      (∀ i j, i < j → j < c'.length → S (c'.getD i 0) ≤ S (c'.getD j 0)) ∧ (∀ j, j < c'.length → w'.cell? ⟨blk, j, none⟩ = some (ptr (pb + c'.getD j 0))) ∧ Keep (· = blk) w w' := by
  have eg : ∀ args w, (callFunc 7 args).run Yba.prog w = .ok (.enter 7 args) w := enters_of Yba.func7 (by kernel_rfl) rfl
  have hcmp : CmpReads Yba.prog 7 #[] (fun i => ptr (pb + i % n)) (fun x y => cmpI (S (x % n)) (S (y % n))) blk 0 c.toArray.size w := by
    intro m os dk hdk x y
    have hk := keep_sortWorld (fun i => ptr (pb + i % n)) w blk 0 m dk os
    exact closure_any (pb + x % n) (pb + y % n) _ _ _ (hk.cell (hS _ (Nat.mod_lt _ hn)) (hsep _ (Nat.mod_lt _ hn))) (hk.cell (hS _ (Nat.mod_lt _ hn)) (hsep _ (Nat.mod_lt _ hn)))
  have hH : Holds (fun i => ptr (pb + i % n)) w blk 0 c.toArray := by
    intro j hj
    have hj' : j < c.length := by simpa using hj
    have h := hrow j hj'
    have e : c.toArray[j]! % n = c.getD j 0 := by
      have e1 : c.toArray[j]! = c.getD j 0 := by simp [List.getD, hj']
      rw [e1, Nat.mod_eq_of_lt]
      exact hc _ (by simp [List.getD, hj'])
    dsimp only
    rw [e, Nat.zero_add]
    exact h
  have h := Any.slices_SortFunc Yba.sortP (fun i => ptr (pb + i % n)) (fun _ => rfl) (fun x y => cmpI (S (x % n)) (S (y % n))) (swo_by fun x => S (x % n)) 7 #[] blk 0 cap c.toArray w eg hcmp.lays hH hblk (by simpa using hsz)
  change Calls Yba.prog 6 _ _ _ at h
  rw [List.size_toArray] at h
  refine h.mono ?_
  rintro e w' ⟨rfl, d', m, os, hp, hs, rfl⟩
  obtain ⟨hp1, hp2, hp3⟩ := hp
  have hp1 : d'.size = c.length := by simpa using hp1
  have hperm : d'.toList.Perm c := by
    have e1 : d'.extract 0 c.length = d' := by rw [← hp1]; simp
    have e2 : c.toArray.extract 0 c.length = c.toArray := by simp
    rw [e1, e2] at hp3
    exact hp3
  have hlt : ∀ i ∈ d'.toList, i < n := fun i hi => hc i (hperm.mem_iff.1 hi)
  have hget : ∀ j, j < d'.toList.length → d'[j]! = d'.toList.getD j 0 ∧ d'.toList.getD j 0 < n := by
    intro j hj
    have hj' : j < d'.size := by simpa using hj
    have e : d'[j]! = d'.toList.getD j 0 := by simp [List.getD, hj']
    refine ⟨e, hlt _ ?_⟩
    rw [List.getD, List.getElem?_eq_getElem hj]
    exact List.getElem_mem hj
  refine ⟨rfl, d'.toList, hperm, ?_, ?_, keep_sortWorld _ _ _ _ _ _ _⟩
  · intro i j hij hj
    have h1 := hs i j (Nat.zero_le _) hij (by rw [← hp1]; simpa using hj)
    obtain ⟨e1, l1⟩ := hget i (by omega)
    obtain ⟨e2, l2⟩ := hget j hj
    simp only [ltOf, lt_cmpI, decide_eq_false_iff_not] at h1
    rw [e1, e2, Nat.mod_eq_of_lt l1, Nat.mod_eq_of_lt l2] at h1
    omega
  · intro j hj
    obtain ⟨e1, l1⟩ := hget j hj
    have h1 := (holds_sortWorld (fun i => ptr (pb + i % n)) w blk 0 m c.toArray d' os hblk hH (by simpa using hp1) j (by simpa using hj)).1
    rw [Nat.zero_add] at h1
    rw [h1, e1]
    dsimp only
    rw [Nat.mod_eq_of_lt l1]

theorem sort_none (fv : Value) (w : World) : Calls Yba.prog 6 #[.slice none 0 0, fv] w fun e w' => e = .returned (.tuple #[]) ∧ w' = w := by
  have h := AnyF.slices_SortFunc_none { Yba.sortP with } none 0 fv w
  change Calls Yba.prog 6 _ _ _ at h
  exact h
end Go.Proofs.Ybulkedjq
