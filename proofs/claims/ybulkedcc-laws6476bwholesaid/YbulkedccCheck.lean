import Derived.Test.YbulkedccLine
import Derived.WideShapes
namespace Go.Proofs.Ybulkedcc
open Go.RowKit Plain

/-- A row that the call itself owns, as a slice of bytes. -/
theorem Bs.of_owns {w : World} {base n : Nat} {v : Value} {xs : List Int} (h : w.ownsRow base 5 1 v n (xs.map (Value.int .u8))) (hbyte : ∀ i, 0 ≤ xs.getD i 0 ∧ xs.getD i 0 < 256) :
    ∃ a c, v = .slice a n c ∧ n ≤ c ∧ c ≤ 9223372036854775807 ∧ Bs w a n xs := by
  have hl : xs.length = n := by simpa using h.1
  rcases h.2 with ⟨rfl, hn⟩ | ⟨g, cap, cur, hv, hg, hh, hnc, hm, hs, ht⟩
  · exact ⟨none, 0, by rw [hn], by omega, by omega, ⟨hl, hbyte, .inl hn⟩⟩
  · subst hv
    refine ⟨_, cap, rfl, hnc, hm, ⟨hl, hbyte, .inr ⟨g, 0, rfl, ?_, fun i hi => ?_⟩⟩⟩
    · by_cases e : g < w.heap.size
      · exact e
      · rw [Array.getElem?_eq_none (by omega)] at hh; cases hh
    · have := h.cellAt i (by omega)
      rw [Nat.zero_add, this]
      simp [List.getD, show i < xs.length by omega]

theorem Bs.bytesIn {w : World} {a : Option Addr} {n : Nat} {xs : List Int} (h : Bs w a n xs) : Lib.BytesIn w a n xs := by
  intro hn
  rcases h.at_ with e | ⟨b, off, e, _, hc⟩
  · omega
  · exact ⟨b, off, e, hc⟩

/-- What 'bytes.Clone' hands back. -/
theorem clone_any (a : Option Addr) (n c : Nat) (xs : List Int) (w : World) (hb : Bs w a n xs) (hn : n ≤ 2000000000) :
    Calls Yba.prog 6 #[.slice a n c] w fun e w' => ∃ a' c', e = .returned (.slice a' n c') ∧ n ≤ c' ∧ c' ≤ 9223372036854775807 ∧ Bs w' a' n xs ∧ Below w.heap.size w w' := by
  cases a with
  | none =>
    have hn0 : n = 0 := by
      rcases hb.at_ with e | ⟨_, _, e, _⟩
      · exact e
      · cases e
    subst hn0
    refine (Yba.bytes_Clone_nil 0 c w).mono ?_
    rintro e w' ⟨rfl, rfl⟩
    exact ⟨none, 0, rfl, by omega, by omega, hb, Below.refl _ _⟩
  | some x =>
    refine (Yba.bytes_Clone_at x n c xs w hb.len (by omega) (fun i hi => ?_)).mono ?_
    · rcases hb.at_ with e | ⟨b, off, e, _, hc⟩
      · omega
      · cases e; rw [Go.WideShapes.add_plain]; exact hc i hi
    · rintro e w' ⟨v', rfl, hown, _, hbel⟩
      obtain ⟨a', c', rfl, h1, h2, h3⟩ := Bs.of_owns hown hb.byte
      exact ⟨a', c', rfl, h1, h2, h3, hbel⟩

set_option maxHeartbeats 1600000 in
theorem check_any (a : Option Addr) (n c : Nat) (xs : List Int) (w : World) (hb : Bs w a n xs) (hn : n ≤ 2000000000) (hnc : n ≤ c) (hcc : c ≤ 9223372036854775807) :
    Calls Yba.prog 4 #[.slice a n c] w fun e w' => e = .returned (.bool true) ∧ Below w.heap.size w w' := by
  go_enter Yba.func4, Yba.ntmps4
  go_wp2_with fail
  refine (clone_any a n c xs w hb hn).mono ?_
  rintro e w1 ⟨a1, c1, rfl, hc1, hc1', hb1, hbel1⟩
  have hbw1 : Bs w1 a n xs := hb.later hbel1
  go_wp2_with fail
  refine (line_any a n c xs w1 hbw1 hn hnc hcc).mono ?_
  rintro e w2 ⟨⟨k, s, hf, rfl⟩, hbel2⟩
  have hbw2 : Bs w2 a n xs := hbw1.later hbel2
  have hb2 : Bs w2 a1 n xs := hb1.later hbel2
  go_wp2_with fail
  refine (model_any a1 n c1 xs w2 hb2 hn).mono ?_
  rintro e w3 ⟨⟨k', s', hf', rfl⟩, hbel3⟩
  obtain ⟨rfl, rfl⟩ := hf.unique hf'
  have hbw3 : Bs w3 a n xs := hbw2.later hbel3
  have hb3 : Bs w3 a1 n xs := hb2.later hbel3
  have hlen := hb.len
  have H : Hid (Below w.heap.size w w3) := (hbel1.trans (hbel2.mono hbel1.size)).trans (hbel3.mono (Nat.le_trans hbel1.size hbel2.size))
  have HI1 : Hid (Lib.BytesIn w3 a n xs) := hbw3.bytesIn
  have HI2 : Hid (Lib.BytesIn w3 a1 n xs) := hb3.bytesIn
  clear hf hf' hbel1 hbel2 hbel3 hbw1 hbw2 hb2 hb1 hb hbw3 hb3
  generalize bstr s = t
  go_wp2_with fail
  refine (Yba.bytes_Equal_all a a1 n c n c1 xs xs w3 hlen hlen HI1.out HI2.out).mono ?_
  rintro e w4 ⟨rfl, rfl⟩
  go_wp2
  go_ret
  exact ⟨ret_bool (by simp), H.out⟩
end Go.Proofs.Ybulkedcc
