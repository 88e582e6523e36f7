import Derived.Test.YbulkedccHas
import Derived.Test.YbulkedccBounds
namespace Go.Proofs.Ybulkedcc
open Go.RowKit Plain

theorem hasB_bstr (xs : List Int) (i : Nat) (l : List UInt8) : hasB xs i (bstr l) = (nums l).isPrefixOf (xs.drop i) := rfl

theorem find_none_of {α : Type} (p : α → Bool) (l : List α) (d : α) (h : ∀ j, j < l.length → p (l.getD j d) = false) : l.find? p = none := by
  rw [List.find?_eq_none]
  intro x hx
  obtain ⟨j, hj, rfl⟩ := List.getElem_of_mem hx
  have := h j hj
  simp [List.getD, hj] at this
  simp [this]

theorem find_some_of {α : Type} (p : α → Bool) (l : List α) (d : α) (m : Nat) (hm : m < l.length) (h : ∀ j, j < m → p (l.getD j d) = false) (hp : p (l.getD m d) = true) : l.find? p = some (l.getD m d) := by
  induction l generalizing m with
  | nil => simp at hm
  | cons a l ih =>
    rw [find_if]
    cases m with
    | zero => rw [if_pos (by simpa using hp)]; simp
    | succ m =>
      rw [if_neg (by have := h 0 (by omega); simp at this; simp [this])]
      have := ih m (by simpa using hm) (fun j hj => by have := h (j + 1) (by omega); simpa using this) (by simpa using hp)
      rw [this]; simp

theorem bnd_none {xs : List Int} {k : Nat} (h : ∀ j, j < 11 → hasB xs k (bstr (bnds.getD j [])) = false) : bnd (xs.drop k) = none :=
  find_none_of _ bnds [] (fun j hj => by have := h j hj; rw [hasB_bstr] at this; exact this)
theorem bnd_some {xs : List Int} {k m : Nat} (hm : m < 11) (h : ∀ j, j < m → hasB xs k (bstr (bnds.getD j [])) = false) (hp : hasB xs k (bstr (bnds.getD m [])) = true) : bnd (xs.drop k) = some (bnds.getD m []) :=
  find_some_of _ bnds [] m hm (fun j hj => by have := h j hj; rw [hasB_bstr] at this; exact this) (by rw [hasB_bstr] at hp; exact hp)
theorem bnds_small (m : Nat) (hm : m < 11) : (bstr (bnds.getD m [])).size ≤ 100 := by
  match m, hm with
  | 0, _ | 1, _ | 2, _ | 3, _ | 4, _ | 5, _ | 6, _ | 7, _ | 8, _ | 9, _ | 10, _ => decide

theorem Bs.later {w w' : World} {a : Option Addr} {n : Nat} {xs : List Int} (h : Bs w a n xs) (b : Below w.heap.size w w') : Bs w' a n xs :=
  ⟨h.len, h.byte, by
    rcases h.at_ with e | ⟨bk, off, e, hb, hc⟩
    · exact .inl e
    · exact .inr ⟨bk, off, e, Nat.lt_of_lt_of_le hb b.size, fun i hi => by rw [b.cell (by exact hb)]; exact hc i hi⟩⟩

theorem ret_two {k : Nat} {i : Int} {s t : ByteArray} (h : i = (k : Int)) (hs : s = t) : Ending.returned (.tuple #[.int .i64 i, .string s]) = .returned (.tuple #[.int .i64 (k : Int), .string t]) := by rw [h, hs]

set_option maxHeartbeats 1600000 in
theorem model_any (a : Option Addr) (n c : Nat) (xs : List Int) (w : World) (hb : Bs w a n xs) (hn : n ≤ 2000000000) :
    Calls Yba.prog 8 #[.slice a n c] w fun e w' => (∃ k s, First xs k s ∧ e = .returned (.tuple #[.int .i64 (k : Nat), .string (bstr s)])) ∧ Below w.heap.size w w' := by
  have hlen := hb.len
  go_enter Yba.func8, Yba.ntmps8
  go_wp2_with (go_at_call 11; refine (bounds_any _).mono ?_; rintro e w' ⟨rfl, rfl⟩)
  have hcells : ∀ q k, k < 11 → ((w.alloc (.cells (bnds.map fun l => Value.string (bstr l)).toArray 9)).drewN q).cell? ⟨w.heap.size, k, none⟩ = some (.string (bstr (bnds.getD k []))) := fun q k hk => bounds_cell w k hk
  have hbel : Below w.heap.size w (w.alloc (.cells (bnds.map fun l => Value.string (bstr l)).toArray 9)) := (Below.refl _ _).alloc (Nat.le_refl _) _
  generalize w.alloc (.cells (bnds.map fun l => Value.string (bstr l)).toArray 9) = W0 at *
  have hB0 : Bs W0 a n xs := hb.later hbel
  have HC : Hid (∀ q k, k < 11 → (W0.drewN q).cell? ⟨w.heap.size, k, none⟩ = some (.string (bstr (bnds.getD k [])))) := hcells
  clear hcells
  go_loopw [5] (fun i wr => ∃ k : Nat, k ≤ n ∧ i = .int .i64 k ∧ (∀ j, j < k → bnd (xs.drop j) = none) ∧ ∃ q, wr = W0.drewN q) (fun i _ => n - (intOf i).toNat)
  case atStart => exact ⟨0, Nat.zero_le _, rfl, fun m h => by omega, 0, rfl⟩
  case round =>
    obtain ⟨k, hk, rfl, hall, q, rfl⟩ := hrel
    have HA : Hid (∀ j, j < k → bnd (xs.drop j) = none) := hall
    clear hall
    by_cases hlt : k < n
    · go_wp2
      go_loopw [6] (fun t wr => ∃ m : Nat, m ≤ 11 ∧ t = .int .i64 m ∧ (∀ j, j < m → hasB xs k (bstr (bnds.getD j [])) = false) ∧ ∃ q, wr = W0.drewN q) (fun i _ => 11 - (intOf i).toNat)
      case atStart => exact ⟨0, Nat.zero_le _, rfl, fun m h => by omega, q, rfl⟩
      case round =>
        obtain ⟨m, hm, rfl, hno, q2, rfl⟩ := hrel
        have HN : Hid (∀ j, j < m → hasB xs k (bstr (bnds.getD j [])) = false) := hno
        clear hno
        by_cases hlm : m < 11
        · have hcm := HC.out q2 m hlm
          have hcm2 : ∀ q, (W0.drewN q).cell? ⟨w.heap.size, m, none⟩ = some (.string (bstr (bnds.getD m []))) := fun q => HC.out q m hlm
          have hsm := bnds_small m hlm
          have HS1 : Hid (hasB xs k (bstr (bnds.getD m [])) = true → bnd (xs.drop k) = some (bnds.getD m [])) := fun h => bnd_some hlm HN.out h
          have HS2 : Hid (hasB xs k (bstr (bnds.getD m [])) = false → ∀ j, j < m + 1 → hasB xs k (bstr (bnds.getD j [])) = false) := by
            intro h j hj
            by_cases e : j = m
            · rw [e]; exact h
            · exact HN.out j (by omega)
          generalize bnds.getD m [] = bl at *
          have hm1 : (0 : Int) ≤ (m : Int) := by omega
          have hm2 : (m : Int) < 11 := by omega
          cases hh : hasB xs k (bstr bl) with
          | true =>
            go_wp2_with (go_at_call 12; refine (has_any _ _ _ xs _ _ _ (hB0.later (below_drewN (Below.refl _ _) _)) hn hk hsm).mono ?_; rintro e w' ⟨rfl, q3, rfl⟩)
            go_quiet (fail)
            go_wp2
            go_ret2
            exact ⟨⟨k, bl, First.hit HA.out (by omega) (HS1.out hh), ret_two rfl rfl⟩, hbel.trans (below_drewN (below_drewN (Below.refl _ _) _) _)⟩
          | false =>
            go_wp2_with (go_at_call 12; refine (has_any _ _ _ xs _ _ _ (hB0.later (below_drewN (Below.refl _ _) _)) hn hk hsm).mono ?_; rintro e w' ⟨rfl, q3, rfl⟩)
            go_roundw
            case rel => exact ⟨m + 1, by omega, by go_num, HS2.out hh, _, rfl⟩
            case measure => simp [intOf]; omega
        · go_wp2
          go_roundw
          case rel => exact ⟨k + 1, by omega, by go_num, none_succ HA.out (bnd_none fun j hj => HN.out j (by omega)), _, rfl⟩
          case measure => simp [intOf]; omega
    · go_wp2
      go_ret2
      refine ⟨⟨k, [], First.end HA.out (by omega), ret_two (by omega) rfl⟩, hbel.trans (below_drewN (Below.refl _ _) _)⟩
end Go.Proofs.Ybulkedcc
