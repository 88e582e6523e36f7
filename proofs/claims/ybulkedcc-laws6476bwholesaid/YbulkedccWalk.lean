import Derived.Test.YbulkedccCheck
import Derived.Test.YbulkedccPiece
import Derived.Laws.AppendOwnNone
import Derived.Lib.AppendStr
namespace Go.Proofs.Ybulkedcc
open Go.RowKit Plain

theorem Yba.info5 : (Yba.prog.info? 5).map (fun i => (i.zero, i.size, i.bytes)) = some (some (.int .u8 0), 1, 1) := by kernel_rfl

theorem str_cells (ys : List Int) (s : ByteArray) : ys.map (Value.int .u8) ++ Lib.strCells s = (ys ++ nums s.data.toList).map (Value.int .u8) := by
  simp [Lib.strCells, nums]

theorem nums_length (s : ByteArray) : (nums s.data.toList).length = s.size := by simp [nums]

theorem byte_append {ys : List Int} {l : List UInt8} (h : ∀ v ∈ ys, 0 ≤ v ∧ v < 256) : ∀ v ∈ ys ++ nums l, 0 ≤ v ∧ v < 256 := by
  intro v hv
  rcases List.mem_append.1 hv with h1 | h1
  · exact h v h1
  · exact nums_byte l v h1

theorem byte_getD {ys : List Int} (h : ∀ v ∈ ys, 0 ≤ v ∧ v < 256) (i : Nat) : 0 ≤ ys.getD i 0 ∧ ys.getD i 0 < 256 := by
  by_cases hi : i < ys.length
  · have := h ys[i] (List.getElem_mem hi)
    simpa [List.getD, hi] using this
  · simp [List.getD, hi]

/-- The loop over the picks, and the second check: from the world in which 'built' owns what it owns. -/
def Rel (w : World) (n0 n1 : Nat) (v i : Value) (wr : World) : Prop :=
  ∃ (k : Nat) (ys : List Int), k ≤ n1 ∧ i = .int .i64 k ∧ ys.length ≤ n0 + 3 * k ∧ (∀ u ∈ ys, 0 ≤ u ∧ u < 256) ∧ wr.ownsRow w.heap.size 5 1 v ys.length (ys.map (Value.int .u8)) ∧ Below w.heap.size w wr

theorem law_big (a0 a1 : Option Addr) (n0 c0 n1 c1 : Nat) (w : World) (h : 1048576 < n0 ∨ 1048576 < n1) (h0 : n0 ≤ 9223372036854775807) (h1 : n1 ≤ 9223372036854775807) :
    Calls Yba.prog 3 #[.slice a0 n0 c0, .slice a1 n1 c1] w fun e w' => e = .returned (.bool true) ∧ Below w.heap.size w w' := by
  by_cases hb : 1048576 < n0
  · go_enter Yba.func3, Yba.ntmps3
    go_wp2
    go_ret
    exact ⟨rfl, Below.refl _ _⟩
  · have h2 : 1048576 < n1 := by omega
    go_enter Yba.func3, Yba.ntmps3
    go_wp2
    go_ret
    exact ⟨rfl, Below.refl _ _⟩

set_option maxHeartbeats 1600000 in
theorem law_small (a0 a1 : Option Addr) (n0 c0 n1 c1 : Nat) (xs zs : List Int) (w : World) (h0 : n0 ≤ 1048576) (h1 : n1 ≤ 1048576) (hnc : n0 ≤ c0) (hcc : c0 ≤ 9223372036854775807) (hb0 : Bs w a0 n0 xs) (hb1 : Bs w a1 n1 zs) (hnil : a0 = none → c0 = 0) :
    Calls Yba.prog 3 #[.slice a0 n0 c0, .slice a1 n1 c1] w fun e w' => e = .returned (.bool true) ∧ Below w.heap.size w w' := by
  obtain ⟨i5, hi, hz0, hz1, hz2⟩ := info_parts Yba.info5
  go_enter Yba.func3, Yba.ntmps3
  go_wp2_with fail
  refine (check_any a0 n0 c0 xs w hb0 (by omega) hnc hcc).mono ?_
  rintro e w1 ⟨rfl, hbel1⟩
  have hb01 : Bs w1 a0 n0 xs := hb0.later hbel1
  have hsz1 := hbel1.size
  go_wp2_with (at_make; refine wpList_make_own _ rfl _ _ 22 rfl w.heap.size 5 i5 (.int .u8 0) 1 Yba.underlying22 hi hz0 hz1 _ _ _ (n0 + 3 * n1) rfl rfl (by omega) (by rw [hz2]; omega) (by unfold maxLen; omega) (by simpa using hsz1) ?_)
  intro w2 hown2 hgrow2
  have hbel2 : Below w.heap.size w w2 := hbel1.grown hgrow2 hsz1 (fun k hk => by cases hk)
  have hb02 : Bs w2 a0 n0 xs := hb0.later hbel2
  have hsz2 := hbel2.size
  clear hgrow2 hbel1 hb01
  have hlen0 : xs.length ≤ n0 := by have := hb0.len; omega
  have hbx : ∀ u ∈ xs, 0 ≤ u ∧ u < 256 := mem_byte hb0.byte
  have HB1 : Hid (Bs w a1 n1 zs) := hb1
  clear hb1
  cases a0 with
  | none =>
    have hn0 : n0 = 0 := by
      rcases hb0.at_ with e | ⟨_, _, e, _⟩
      · exact e
      · cases e
    obtain rfl := hn0
    obtain rfl := hnil rfl
    obtain rfl : xs = [] := List.eq_nil_of_length_eq_zero hb0.len
    have hown3 : w2.ownsRow w.heap.size 5 1 (.slice (some ⟨w1.heap.size, 0, none⟩) 0 (3 * n1)) ([] : List Int).length (([] : List Int).map (Value.int .u8)) := by simpa using hown2
    have hbel3 := hbel2
    clear hb02 hb0
    go_wp2_with (at_builtin; refine wpList_append_own_none rfl _ _ 22 rfl w.heap.size 5 i5 1 Yba.underlying22 hi _ _ _ rfl hown2 rfl ?_)
    clear hown2 hbel2
    have Hown3 := hown3
    clear hown3
    go_loopw [5, 31] (fun v i wr => ∃ (k : Nat) (ys : List Int), k ≤ n1 ∧ i = .int .i64 k ∧ ys.length ≤ 0 + 3 * k ∧ (∀ u ∈ ys, 0 ≤ u ∧ u < 256) ∧ wr.ownsRow w.heap.size 5 1 v ys.length (ys.map (Value.int .u8)) ∧ Below w.heap.size w wr) (fun _ i _ => n1 - (intOf i).toNat)
    case atStart => exact ⟨0, [], by omega, rfl, by simp at hlen0 ⊢; try omega, hbx, Hown3, hbel3⟩
    case round =>
      obtain ⟨k, ys, hk, rfl, hyl, hyb, hown, hbel⟩ := hrel
      have hsz := hbel.size
      have HYB : Hid (∀ u ∈ ys, 0 ≤ u ∧ u < 256) := hyb
      clear hyb hbx
      by_cases hlt : k < n1
      · obtain ⟨b1, off1, rfl, hb1, hcell⟩ : ∃ b' off, a1 = some ⟨b', off, none⟩ ∧ b' < w.heap.size ∧ ∀ i, i < n1 → w.cell? ⟨b', off + i, none⟩ = some (.int .u8 (zs.getD i 0)) := by
          rcases HB1.out.at_ with h | h
          · omega
          · exact h
        have hc : wr.cell? ⟨b1, off1 + k, none⟩ = some (.int .u8 (zs.getD k 0)) := (hbel.cell (by exact hb1)).trans (hcell k hlt)
        have hz := HB1.out.byte k
        generalize zs.getD k 0 = z at hc hz
        clear hcell
        go_wp2_with fail
        refine (piece_any z hz.1 hz.2 _).mono ?_
        rintro e w4 ⟨⟨s, hs, rfl⟩, hw4⟩
        have hw4' := hw4.symm
        subst hw4'
        go_wp2_with (at_builtin; refine Lib.wpList_append_own_string _ rfl _ _ 22 9 rfl w.heap.size 5 i5 Yba.underlying22 Yba.underlying9 hi hz0 hz1 hz2 _ _ _ rfl hown s rfl (by unfold maxLen; omega) (by omega) hsz ?_)
        intro v5 w5 hown5 hgrow5 _
        have hbel5 : Below w.heap.size w w5 := hbel.grown hgrow5 hsz (fun k hk => (hown.lt k hk).1)
        rw [str_cells, ← nums_length, ← List.length_append] at hown5
        have hnl := nums_length s
        clear hown hgrow5 hc hbel
        go_wp2
        go_roundw
        case rel => exact ⟨k + 1, ys ++ nums s.data.toList, by omega, by go_num, by rw [List.length_append]; omega, byte_append HYB.out, hown5, hbel5⟩
        case measure => simp [intOf]; omega
      · obtain ⟨a5, c5, rfl, h5, h5', hbs⟩ := Bs.of_owns hown (byte_getD HYB.out)
        clear hown
        go_wp2_with fail
        refine (check_any a5 ys.length c5 ys wr hbs (by omega) h5 h5').mono ?_
        rintro e w6 ⟨rfl, hbel6⟩
        go_wp2
        go_ret
        exact ⟨rfl, hbel.trans (hbel6.mono hsz)⟩
  | some x =>
    have hnews : ∀ j u, (xs.map (Value.int .u8))[j]? = some u → w2.cell? (x.add j) = some u := by
      intro j u hj
      rw [List.getElem?_map] at hj
      obtain ⟨z, hz, rfl⟩ := Option.map_eq_some_iff.1 hj
      have hjl : j < xs.length := (List.getElem?_eq_some_iff.1 hz).1
      rcases hb02.at_ with e | ⟨b, off, e, _, hc⟩
      · omega
      · cases e
        rw [Go.WideShapes.add_plain, hc j (by omega)]
        simp [List.getD, hz]
    have hl : (xs.map (Value.int .u8)).length = n0 * 1 := by have := hb0.len; simp; omega
    have hlx := hb0.len
    clear hb02 hb0
    go_wp2_with (at_builtin; refine wpList_append_own _ rfl _ _ 22 rfl w.heap.size 5 i5 (.int .u8 0) 1 1 Yba.underlying22 hi hz0 hz1 hz2 rfl (by decide) _ _ _ rfl hown2 x n0 c0 (xs.map (Value.int .u8)) rfl hl hnews (ints_oneCell _ _) (by unfold maxLen; omega) (by omega) hsz2 ?_)
    intro v3 w3 hown3' hgrow3 _
    have hbel3 : Below w.heap.size w w3 := hbel2.grown hgrow3 hsz2 (fun k hk => by simp [Value.ownBlock] at hk; omega)
    have hown3 : w3.ownsRow w.heap.size 5 1 v3 xs.length (xs.map (Value.int .u8)) := by
      rw [hlx]; exact hown3'
    clear hown3' hgrow3 hown2 hbel2 hnews hl
    go_wp2
    have Hown3 := hown3
    clear hown3
    go_loopw [5, 31] (fun v i wr => ∃ (k : Nat) (ys : List Int), k ≤ n1 ∧ i = .int .i64 k ∧ ys.length ≤ n0 + 3 * k ∧ (∀ u ∈ ys, 0 ≤ u ∧ u < 256) ∧ wr.ownsRow w.heap.size 5 1 v ys.length (ys.map (Value.int .u8)) ∧ Below w.heap.size w wr) (fun _ i _ => n1 - (intOf i).toNat)
    case atStart => exact ⟨0, xs, by omega, rfl, by simp at hlen0 ⊢; try omega, hbx, Hown3, hbel3⟩
    case round =>
      obtain ⟨k, ys, hk, rfl, hyl, hyb, hown, hbel⟩ := hrel
      have hsz := hbel.size
      have HYB : Hid (∀ u ∈ ys, 0 ≤ u ∧ u < 256) := hyb
      clear hyb hbx
      by_cases hlt : k < n1
      · obtain ⟨b1, off1, rfl, hb1, hcell⟩ : ∃ b' off, a1 = some ⟨b', off, none⟩ ∧ b' < w.heap.size ∧ ∀ i, i < n1 → w.cell? ⟨b', off + i, none⟩ = some (.int .u8 (zs.getD i 0)) := by
          rcases HB1.out.at_ with h | h
          · omega
          · exact h
        have hc : wr.cell? ⟨b1, off1 + k, none⟩ = some (.int .u8 (zs.getD k 0)) := (hbel.cell (by exact hb1)).trans (hcell k hlt)
        have hz := HB1.out.byte k
        generalize zs.getD k 0 = z at hc hz
        clear hcell
        go_wp2_with fail
        refine (piece_any z hz.1 hz.2 _).mono ?_
        rintro e w4 ⟨⟨s, hs, rfl⟩, hw4⟩
        have hw4' := hw4.symm
        subst hw4'
        go_wp2_with (at_builtin; refine Lib.wpList_append_own_string _ rfl _ _ 22 9 rfl w.heap.size 5 i5 Yba.underlying22 Yba.underlying9 hi hz0 hz1 hz2 _ _ _ rfl hown s rfl (by unfold maxLen; omega) (by omega) hsz ?_)
        intro v5 w5 hown5 hgrow5 _
        have hbel5 : Below w.heap.size w w5 := hbel.grown hgrow5 hsz (fun k hk => (hown.lt k hk).1)
        rw [str_cells, ← nums_length, ← List.length_append] at hown5
        have hnl := nums_length s
        clear hown hgrow5 hc hbel
        go_wp2
        go_roundw
        case rel => exact ⟨k + 1, ys ++ nums s.data.toList, by omega, by go_num, by rw [List.length_append]; omega, byte_append HYB.out, hown5, hbel5⟩
        case measure => simp [intOf]; omega
      · obtain ⟨a5, c5, rfl, h5, h5', hbs⟩ := Bs.of_owns hown (byte_getD HYB.out)
        clear hown
        go_wp2_with fail
        refine (check_any a5 ys.length c5 ys wr hbs (by omega) h5 h5').mono ?_
        rintro e w6 ⟨rfl, hbel6⟩
        go_wp2
        go_ret
        exact ⟨rfl, hbel.trans (hbel6.mono hsz)⟩
end Go.Proofs.Ybulkedcc
