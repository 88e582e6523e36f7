import Derived.Laws.FloatArith
namespace Go.Proofs.Ybulkedgy

/-- A datum that is no NaN. -/
def real (d : Ieee.Datum) : Bool := !d.isNaN

theorem read_word (f : Ieee.Format) (neg : Bool) (rung : Nat) (h : rung ≤ f.infRung) : real (f.read (f.word neg rung)) = true := by
  have hlt : rung < f.signWeight := Nat.lt_of_le_of_lt h f.infRung_lt
  have hm : f.word neg rung % f.signWeight = rung := by
    unfold Ieee.Format.word
    split
    · rw [Nat.add_mod_left, Nat.mod_eq_of_lt hlt]
    · exact Nat.mod_eq_of_lt hlt
  unfold Ieee.Format.read real
  dsimp only
  rw [hm]
  split
  · rfl
  · split
    · rfl
    · split
      · rfl
      · omega

theorem read_nearest (f : Ieee.Format) (neg : Bool) (mag : Nat) (place : Int) : real (f.read (f.nearest neg mag place)) = true := by
  unfold Ieee.Format.nearest
  dsimp only
  split
  · exact read_word f neg 0 (Nat.zero_le _)
  · exact read_word f neg _ (Nat.min_le_right ..)

theorem read_write (f : Ieee.Format) (d : Ieee.Datum) (h : real d = true) : real (f.read (f.write d)) = true := by
  cases d with
  | number neg mag place => exact read_nearest f neg mag place
  | infinity neg => exact read_word f neg _ (Nat.le_refl _)
  | nan neg fraction => cases h

theorem order_refl (d : Ieee.Datum) (h : real d = true) : d.order d = some .eq := by
  cases d with
  | number neg mag place => simp [Ieee.Datum.order]
  | infinity neg => simp [Ieee.Datum.order]
  | nan neg fraction => cases h

/-- 1e7. -/
def tenM : Nat := 4711630319722168320

theorem read_tenM : Ieee.double.read tenM = .number false 5368709120000000 (-29) := by decide +kernel

theorem quot_real (d : Ieee.Datum) (h : real d = true) : ∃ q, d.quotient 54 (.number false 5368709120000000 (-29)) = some q ∧ real q = true := by
  cases d with
  | number neg mag place => exact ⟨_, rfl, rfl⟩
  | infinity neg => exact ⟨_, rfl, rfl⟩
  | nan neg fraction => cases h

/-- 'float64(n) / 1e7': its bits. -/
def degrees (n : Int) : Nat := (floatBits .quo .f64 (floatOfInt .f64 n) tenM).getD 0

theorem degrees_both (n : Int) : ∃ r, floatBits .quo .f64 (floatOfInt .f64 n) tenM = some r ∧ real (Ieee.double.read r) = true := by
  have h0 : real (Ieee.double.read (floatOfInt .f64 n)) = true := read_nearest _ _ _ _
  obtain ⟨q, hq, hr⟩ := quot_real _ h0
  refine ⟨Ieee.double.write q, ?_, read_write _ q hr⟩
  show ((Ieee.double.read (floatOfInt .f64 n)).quotient 54 (Ieee.double.read tenM)).map Ieee.double.write = _
  rw [read_tenM, hq]
  rfl

theorem degrees_bits (n : Int) : floatBits .quo .f64 (floatOfInt .f64 n) 4711630319722168320 = some (degrees n) := by
  obtain ⟨r, hr, _⟩ := degrees_both n
  unfold degrees
  rw [hr]
  exact hr

theorem degrees_eq (n : Int) : Op.floatEq .f64 (degrees n) (degrees n) = true := by
  obtain ⟨r, hr, h⟩ := degrees_both n
  unfold degrees Op.floatEq
  rw [hr]
  show (Ieee.Datum.order (Ieee.double.read r) (Ieee.double.read r) == some .eq) = true
  rw [order_refl _ h]
  rfl
end Go.Proofs.Ybulkedgy
