/-
  Plain facts on line boundaries in a list of byte numbers: no Go in sight.
-/
namespace Go.Proofs.Ybulkedcc.Plain

/-- A boundary's bytes as numbers. -/
def nums (b : List UInt8) : List Int := b.map fun c => (c.toNat : Int)

/-- Every boundary, the longer one of the two that begin alike first. -/
def bnds : List (List UInt8) := [[13, 10], [10], [13], [11], [12], [28], [29], [30], [194, 133], [226, 128, 168], [226, 128, 169]]

/-- The boundary with which the list begins. -/
def bnd (l : List Int) : Option (List UInt8) := bnds.find? fun b => (nums b).isPrefixOf l

/-- 'k' is the first place at which a boundary begins, and 's' is that boundary; or there is none. -/
def First (l : List Int) (k : Nat) (s : List UInt8) : Prop :=
  (∀ j, j < k → bnd (l.drop j) = none) ∧ ((k < l.length ∧ bnd (l.drop k) = some s) ∨ (k = l.length ∧ s = []))

theorem First.unique {l : List Int} {k k' : Nat} {s s' : List UInt8} (h : First l k s) (h' : First l k' s') : k = k' ∧ s = s' := by
  obtain ⟨a, b⟩ := h
  obtain ⟨a', b'⟩ := h'
  have hk : k = k' := by
    rcases Nat.lt_trichotomy k k' with c | c | c
    · have := a' k c
      rcases b with ⟨_, b⟩ | ⟨b, _⟩
      · rw [this] at b; cases b
      · rcases b' with ⟨b', _⟩ | ⟨b', _⟩ <;> omega
    · exact c
    · have := a k' c
      rcases b' with ⟨_, b'⟩ | ⟨b', _⟩
      · rw [this] at b'; cases b'
      · rcases b with ⟨b, _⟩ | ⟨b, _⟩ <;> omega
  subst hk
  refine ⟨rfl, ?_⟩
  rcases b with ⟨b1, b⟩ | ⟨b1, b⟩ <;> rcases b' with ⟨b1', b'⟩ | ⟨b1', b'⟩
  · rw [b] at b'; cases b'; rfl
  · omega
  · omega
  · rw [b, b']

theorem pre_cons (y : Int) (ys : List Int) (x : Int) (r : List Int) : (y :: ys).isPrefixOf (x :: r) = (y == x && ys.isPrefixOf r) := rfl

theorem find_if {α : Type} (p : α → Bool) (b : α) (bs : List α) : (b :: bs).find? p = if p b = true then some b else bs.find? p := by
  rw [List.find?_cons]
  cases p b <;> rfl

theorem bnd_cons (x : Int) (r : List Int) : bnd (x :: r) =
    if x = 13 ∧ r.head? = some 10 then some [13, 10] else if x = 10 then some [10] else if x = 13 then some [13] else if x = 11 then some [11] else if x = 12 then some [12]
    else if x = 28 then some [28] else if x = 29 then some [29] else if x = 30 then some [30]
    else if x = 194 ∧ ([133] : List Int).isPrefixOf r = true then some [194, 133]
    else if x = 226 ∧ ([128, 168] : List Int).isPrefixOf r = true then some [226, 128, 168]
    else if x = 226 ∧ ([128, 169] : List Int).isPrefixOf r = true then some [226, 128, 169] else none := by
  have h13 : ([10] : List Int).isPrefixOf r = true ↔ r.head? = some 10 := by
    cases r with
    | nil => simp
    | cons y s => simp [List.isPrefixOf]; exact ⟨fun h => h.symm, fun h => h.symm⟩
  have e (n : Int) : (n == x) = decide (x = n) := by
    rw [Bool.eq_iff_iff]; simp; exact ⟨fun h => h.symm, fun h => h.symm⟩
  have n1 : nums [13, 10] = [13, 10] := rfl
  have n2 : nums [10] = [10] := rfl
  have n3 : nums [13] = [13] := rfl
  have n4 : nums [11] = [11] := rfl
  have n5 : nums [12] = [12] := rfl
  have n6 : nums [28] = [28] := rfl
  have n7 : nums [29] = [29] := rfl
  have n8 : nums [30] = [30] := rfl
  have n9 : nums [194, 133] = [194, 133] := rfl
  have n10 : nums [226, 128, 168] = [226, 128, 168] := rfl
  have n11 : nums [226, 128, 169] = [226, 128, 169] := rfl
  unfold bnd bnds
  simp only [find_if, n1, n2, n3, n4, n5, n6, n7, n8, n9, n10, n11, pre_cons, e, List.isPrefixOf_nil_left, Bool.and_true, List.find?_nil, Bool.and_eq_true, decide_eq_true_eq, h13]

theorem bnd_nil : bnd [] = none := rfl

theorem drop_eq (l : List Int) (k : Nat) (h : k < l.length) : l.drop k = l.getD k 0 :: l.drop (k + 1) := by
  rw [List.drop_eq_getElem_cons h]
  simp [List.getD, h]

theorem head_drop (l : List Int) (k : Nat) : (l.drop k).head? = l[k]? := by simp

/-- A byte with which no boundary begins. -/
theorem bnd_other (x : Int) (r : List Int) (h10 : x ≠ 10) (h13 : x ≠ 13) (h11 : x ≠ 11) (h12 : x ≠ 12) (h28 : x ≠ 28) (h29 : x ≠ 29) (h30 : x ≠ 30) (h194 : x ≠ 194) (h226 : x ≠ 226) : bnd (x :: r) = none := by
  rw [bnd_cons]; simp [*]

theorem First.hit {l : List Int} {k : Nat} {s : List UInt8} (h : ∀ j, j < k → bnd (l.drop j) = none) (hk : k < l.length) (hb : bnd (l.drop k) = some s) : First l k s := ⟨h, .inl ⟨hk, hb⟩⟩
theorem First.end {l : List Int} {k : Nat} (h : ∀ j, j < k → bnd (l.drop j) = none) (hk : k = l.length) : First l k [] := ⟨h, .inr ⟨hk, rfl⟩⟩
theorem none_succ {l : List Int} {k : Nat} (h : ∀ j, j < k → bnd (l.drop j) = none) (hb : bnd (l.drop k) = none) : ∀ j, j < k + 1 → bnd (l.drop j) = none := by
  intro j hj
  by_cases e : j = k
  · rw [e]; exact hb
  · exact h j (by omega)

end Go.Proofs.Ybulkedcc.Plain
