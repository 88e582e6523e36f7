import Derived.Test.YbulkedgyHex
import Derived.Laws.CopyOwn
import Derived.Deep.DeepCutAuto
import Derived.Deep.QuietTactic
import Derived.BigQuiet
import Derived.WideShapes
namespace Go.Proofs.Ybulkedgy
open Go.RowKit

/-- A slice of bytes in the world. -/
structure Sl (w : World) (a : Option Addr) (n : Nat) (xs : List Int) : Prop where
  len : xs.length = n
  at_ : n = 0 ∨ ∃ g off, a = some ⟨g, off, none⟩ ∧ g < w.heap.size ∧ ∀ i, i < n → w.cell? ⟨g, off + i, none⟩ = some (.int .u8 (xs.getD i 0))

theorem Sl.later {w w' : World} {a : Option Addr} {n : Nat} {xs : List Int} (h : Sl w a n xs) (b : Below w.heap.size w w') : Sl w' a n xs :=
  ⟨h.len, by
    rcases h.at_ with e | ⟨g, off, e, hg, hc⟩
    · exact .inl e
    · exact .inr ⟨g, off, e, Nat.lt_of_lt_of_le hg b.size, fun i hi => (b.cell (by exact hg)).trans (hc i hi)⟩⟩

theorem Sl.cells {w : World} {a : Option Addr} {n : Nat} {xs : List Int} (h : Sl w a n xs) : ∀ b, a = some b → ∀ j u, (xs.map (Value.int .u8))[j]? = some u → w.cell? (b.add j) = some u := by
  intro b hb j u hj
  rw [List.getElem?_map] at hj
  obtain ⟨z, hz, rfl⟩ := Option.map_eq_some_iff.1 hj
  have hjl : j < xs.length := (List.getElem?_eq_some_iff.1 hz).1
  have hl := h.len
  rcases h.at_ with e | ⟨g, off, e, _, hc⟩
  · omega
  · rw [e] at hb
    cases hb
    rw [Go.WideShapes.add_plain, hc j (by omega)]
    simp [List.getD, hz]

theorem Sl.of_owns {w : World} {base n : Nat} {v : Value} {xs : List Int} (h : w.ownsRow base 5 1 v n (xs.map (Value.int .u8))) :
    ∃ a c, v = .slice a n c ∧ n ≤ c ∧ Sl w a n xs := by
  have hl : xs.length = n := by simpa using h.1
  rcases h.2 with ⟨rfl, hn⟩ | ⟨g, cap, cur, hv, hg, hh, hnc, hm, hs, ht⟩
  · exact ⟨none, 0, by rw [hn], by omega, ⟨hl, .inl hn⟩⟩
  · subst hv
    refine ⟨_, cap, rfl, hnc, ⟨hl, .inr ⟨g, 0, rfl, ?_, fun i hi => ?_⟩⟩⟩
    · by_cases e : g < w.heap.size
      · exact e
      · rw [Array.getElem?_eq_none (by omega)] at hh; cases hh
    · have := h.cellAt i (by omega)
      rw [Nat.zero_add, this]
      simp [List.getD, show i < xs.length by omega]

/-- What 'appendUpperHex' gives, whatever the number of digits. -/
theorem hex_any (a : Option Addr) (n : Nat) (xs : List Int) (v D : Int) (w : World) (hv0 : 0 ≤ v) (hv1 : v < 4294967296) (hD1 : -1048576 ≤ D) (hD2 : D ≤ 4096) (hn : n ≤ 1048576) (hnil : a = none → n = 0) (hs : Sl w a n xs) :
    Calls Yba.prog 5 #[.slice a n n, .int .u32 v, .int .i64 D] w fun e w' => ∃ a' c', e = .returned (.slice a' (n + D.toNat) c') ∧ n + D.toNat ≤ c' ∧ Sl w' a' (n + D.toNat) (xs ++ hexTo v D.toNat D.toNat) ∧ Below w.heap.size w w' := by
  by_cases h : D ≤ 0
  · have e : D.toNat = 0 := by omega
    rw [e]
    go_enter Yba.func5, Yba.ntmps5
    go_wp2
    refine wp_loop_rounds 1 ?_
    rw [rounds_succ]
    go_wp2
    go_ret
    exact ⟨a, n, rfl, by omega, by rw [show hexTo v 0 0 = [] from rfl, List.append_nil]; exact hs, Below.refl _ _⟩
  · obtain ⟨N, rfl⟩ := Int.eq_ofNat_of_zero_le (show 0 ≤ D by omega)
    have e : ((N : Int)).toNat = N := by omega
    rw [e]
    refine (hex_pos a n xs v N w hv0 hv1 (by omega) (by omega) hn hs.len hnil hs.cells).mono ?_
    rintro e w' ⟨v', rfl, hown, hbel⟩
    obtain ⟨a', c', rfl, hc, hs'⟩ := Sl.of_owns hown
    exact ⟨a', c', rfl, hc, hs', hbel⟩
end Go.Proofs.Ybulkedgy
