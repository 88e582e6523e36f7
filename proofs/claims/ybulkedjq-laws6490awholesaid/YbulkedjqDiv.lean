import Derived.Test.YbulkedjqHeap
namespace Go.Proofs.Ybulkedjq
open Go.RowKit

/-- What 'div' gives. -/
def divW (n d : Int) : Int := if n.tmod d < 0 then wrap64 (n.tdiv d - 1) else n.tdiv d

theorem div_any (n d : Int) (w : World) (hd : 0 < d) (hd2 : d ≤ 3600000) (hn1 : -9223372036854775808 ≤ n) (hn2 : n ≤ 9223372036854775807) :
    Calls Yba.prog 9 #[.int .i64 n, .int .i64 d] w fun e w' => e = .returned (.int .i64 (divW n d)) ∧ w' = w := by
  by_cases h : n.tmod d < 0
  · have e : divW n d = wrap64 (n.tdiv d - 1) := if_pos h
    rw [e]
    clear e
    go_enter Yba.func9, Yba.ntmps9
    go_wp2
    go_ret
    exact ⟨rfl, rfl⟩
  · have e : divW n d = n.tdiv d := if_neg h
    rw [e]
    clear e
    go_enter Yba.func9, Yba.ntmps9
    go_wp2
    go_ret
    exact ⟨rfl, rfl⟩

/-- What 'nextDue' gives. -/
def dueW (now fin : Int) : Int := wrap64 (wrap64 (divW now fin + 1) * fin)

theorem due_any (hb : Nat) (now fin : Int) (w : World) (hd : 0 < fin) (hd2 : fin ≤ 3600000) (hn1 : -9223372036854775808 ≤ now) (hn2 : now ≤ 9223372036854775807)
    (c0 : w.cell? ⟨hb, 0, none⟩ = some (.int .i64 fin)) (c7 : w.cell? ⟨hb, 7, none⟩ = some (.int .i64 now)) :
    Calls Yba.prog 5 #[.pointer (some ⟨hb, 0, none⟩)] w fun e w' => e = .returned (.int .i64 (dueW now fin)) ∧ w' = w := by
  have hdiv := div_any now fin w hd hd2 hn1 hn2
  unfold dueW
  generalize divW now fin = q at hdiv ⊢
  go_enter Yba.func5, Yba.ntmps5
  go_wp2_with (go_at_call 9; refine hdiv.mono ?_; rintro e w' ⟨rfl, rfl⟩)
  go_ret
  exact ⟨rfl, rfl⟩
end Go.Proofs.Ybulkedjq
