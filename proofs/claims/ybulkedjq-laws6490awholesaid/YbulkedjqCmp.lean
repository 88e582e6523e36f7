import Derived.Test.YbulkedjqDiv
import Derived.Shelf.SlSortCmp.Whole1
namespace Go.Proofs.Ybulkedjq
open Go.RowKit

theorem nan_any (x : Int) (w : World) : Calls Yba.prog 12 #[.int .i64 x] w fun e w' => e = .returned (.bool false) ∧ w' = w := by
  have b : (x != x) = false := by simp
  go_enter Yba.func12, Yba.ntmps12
  go_wp2
  go_ret
  exact ⟨rfl, rfl⟩

/-- What cmp.Compare gives. -/
def cmpI (x y : Int) : Int := if x < y then -1 else if y < x then 1 else 0

theorem cmp_any (x y : Int) (w : World) : Calls Yba.prog 8 #[.int .i64 x, .int .i64 y] w fun e w' => e = .returned (.int .i64 (cmpI x y)) ∧ w' = w := by
  have h1 := nan_any x w
  have h2 := nan_any y w
  by_cases hxy : x < y
  · have e : cmpI x y = -1 := if_pos hxy
    rw [e]; clear e
    go_enter Yba.func8, Yba.ntmps8
    go_wp2_with (first | (go_at_call 12; with_reducible refine h1.mono ?_; rintro e w' ⟨rfl, hw'⟩; subst w'; dsimp only) | (go_at_call 12; with_reducible refine h2.mono ?_; rintro e w' ⟨rfl, hw'⟩; subst w'; dsimp only))
    go_ret
    exact ⟨rfl, rfl⟩
  · by_cases hyx : y < x
    · have e : cmpI x y = 1 := by unfold cmpI; rw [if_neg hxy, if_pos hyx]
      rw [e]; clear e
      go_enter Yba.func8, Yba.ntmps8
      go_wp2_with (first | (go_at_call 12; with_reducible refine h1.mono ?_; rintro e w' ⟨rfl, hw'⟩; subst w'; dsimp only) | (go_at_call 12; with_reducible refine h2.mono ?_; rintro e w' ⟨rfl, hw'⟩; subst w'; dsimp only))
      go_ret
      exact ⟨rfl, rfl⟩
    · have e : cmpI x y = 0 := by unfold cmpI; rw [if_neg hxy, if_neg hyx]
      rw [e]; clear e
      go_enter Yba.func8, Yba.ntmps8
      go_wp2_with (first | (go_at_call 12; with_reducible refine h1.mono ?_; rintro e w' ⟨rfl, hw'⟩; subst w'; dsimp only) | (go_at_call 12; with_reducible refine h2.mono ?_; rintro e w' ⟨rfl, hw'⟩; subst w'; dsimp only))
      go_ret
      exact ⟨rfl, rfl⟩

/-- The closure that Close hands to slices.SortFunc. -/
theorem closure_any (a b : Nat) (x y : Int) (w : World) (ca : w.cell? ⟨a, 0, none⟩ = some (.int .i64 x)) (cb : w.cell? ⟨b, 0, none⟩ = some (.int .i64 y)) :
    Calls Yba.prog 7 #[.pointer (some ⟨a, 0, none⟩), .pointer (some ⟨b, 0, none⟩)] w fun e w' => e = .returned (.int .i64 (cmpI x y)) ∧ ∃ q, w' = w.drewN q := by
  have hc := fun w => cmp_any x y w
  generalize cmpI x y = r at hc ⊢
  go_enter Yba.func7, Yba.ntmps7
  go_wp2
  go_quiet ((go_at_call 8; refine (hc _).mono (fun _ _ ⟨he, hm⟩ => ⟨he, _, hm⟩)))
  go_wp2
  go_ret
  exact ⟨rfl, _, rfl⟩
end Go.Proofs.Ybulkedjq
