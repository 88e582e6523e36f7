import Derived.Test.YbulkedgyLawA
namespace Go.Proofs.Ybulkedgy
open Go.RowKit

theorem below_drewN {B : Nat} {w w' : World} (h : Below B w w') (q : Nat) : Below B w (w'.drewN q) := ⟨h.os, h.tape, h.output, h.size, h.block⟩

theorem lawA_out (a : Option Addr) (n c : Nat) (v D : Int) (w : World) (hn : n ≤ 9223372036854775807) (h : 1048576 < n ∨ 4096 < D ∨ D < -1048576) :
    Calls Yba.prog 3 #[.slice a n c, .int .u32 v, .int .i64 D] w fun e w' => e = .returned (.bool true) ∧ Below w.heap.size w w' := by
  by_cases h1 : 1048576 < n
  · go_enter Yba.func3, Yba.ntmps3
    go_wp2
    go_ret
    exact ⟨rfl, Below.refl _ _⟩
  · by_cases h2 : 4096 < D
    · go_enter Yba.func3, Yba.ntmps3
      go_wp2
      go_ret
      exact ⟨rfl, Below.refl _ _⟩
    · have h3 : D < -1048576 := by omega
      go_enter Yba.func3, Yba.ntmps3
      go_wp2
      go_ret
      exact ⟨rfl, Below.refl _ _⟩

theorem made_row {w : World} {H n : Nat} {base : Nat} {xs : List Value} (h : w.ownsRow base 5 1 (.slice (some ⟨H, 0, none⟩) n n) n xs) : ∃ cur : Array Value, w.heap[H]? = some (.cells cur 5 (0, 0)) ∧ cur.size = n := by
  rcases h.2 with ⟨hv, _⟩ | ⟨g, cap, cur, hv, hg, hh, hnc, hm, hs, ht⟩
  · cases hv
  · cases hv
    exact ⟨cur, hh, by omega⟩

theorem copy_full (w1 : World) (H n c : Nat) (x : Addr) (cur : Array Value) (xs : List Int) (hcur : w1.heap[H]? = some (.cells cur 5 (0, 0))) (hsz : cur.size = n) (hlen : xs.length = n) (hcl : ∀ j v, (xs.map (Value.int .u8))[j]? = some v → w1.cell? (x.add j) = some v) :
    (Builtin.copy_ #[22, 22] 3 #[.slice (some ⟨H, 0, none⟩) n n, .slice (some x) n c]).run Yba.prog w1 = .ok (.int .i64 n) (w1.setRow H (xs.map (Value.int .u8)).toArray) := by
  have h := run_copy_row (P := Yba.prog) w1 22 22 3 5 H 0 n n x n c cur 5 (xs.map (Value.int .u8)) Yba.underlying22 (by kernel_rfl) hcur (by simp [hlen]) hcl (by simp; omega) (ints_oneCell .u8 xs)
  rw [h]
  have e : (cur.toList.take 0 ++ xs.map (Value.int .u8) ++ cur.toList.drop (0 + (xs.map (Value.int .u8)).length)) = xs.map (Value.int .u8) := by
    rw [List.drop_eq_nil_of_le (by simp; omega)]; simp
  rw [e, List.length_map, hlen]
  rfl

theorem copied_row (w1 : World) (H n : Nat) (cur : Array Value) (xs : List Int) (hcur : w1.heap[H]? = some (.cells cur 5 (0, 0))) (hlen : xs.length = n) : Sl (w1.setRow H (xs.map (Value.int .u8)).toArray) (some ⟨H, 0, none⟩) n xs := by
  refine ⟨hlen, .inr ⟨H, 0, rfl, ?_, fun i hi => ?_⟩⟩
  · have e : H < w1.heap.size := by
      by_cases e : H < w1.heap.size
      · exact e
      · rw [Array.getElem?_eq_none (by omega)] at hcur; cases hcur
    simpa [World.setRow] using e
  · have e := setRow_heap w1 H cur (xs.map (Value.int .u8)).toArray 5 _ hcur
    simp [World.cell?, e, List.getD, show i < xs.length by omega]

theorem pow_small (p : Nat) (hp : p < 8) : (2 : Int) ^ (4 * p) % 4294967296 = 2 ^ (4 * p) := by
  match p, hp with
  | 0, _ | 1, _ | 2, _ | 3, _ | 4, _ | 5, _ | 6, _ | 7, _ => decide
theorem nibble_div (v : Int) (p : Nat) (hp : p < 8) (h0 : 0 ≤ v) (h1 : v < 4294967296) : 0 ≤ v / ((2 : Int) ^ (4 * p) % 4294967296) ∧ v / ((2 : Int) ^ (4 * p) % 4294967296) < 4294967296 ∧ (1 : Int) ≤ 2 ^ (4 * p) % 4294967296 := by
  match p, hp with
  | 0, _ | 1, _ | 2, _ | 3, _ | 4, _ | 5, _ | 6, _ | 7, _ => simp; omega

set_option maxHeartbeats 3200000 in
set_option maxRecDepth 100000 in
theorem lawA_in (a : Option Addr) (n c : Nat) (xs : List Int) (v D : Int) (w : World) (hv0 : 0 ≤ v) (hv1 : v < 4294967296) (hn : n ≤ 1048576) (hD1 : -1048576 ≤ D) (hD2 : D ≤ 4096) (hs : Sl w a n xs) (hnil : a = none → n = 0) :
    Calls Yba.prog 3 #[.slice a n c, .int .u32 v, .int .i64 D] w fun e w' => e = .returned (.bool true) ∧ Below w.heap.size w w' := by
  obtain ⟨i5, hi, hz0, hz1, hz2⟩ := info_parts Yba.info5
  have hnq := fun (w : World) (a : Option Addr) (n c : Nat) => run_neq_slice_nil_any (P := Yba.prog) w 22 5 a n c 0 0 Yba.underlying22
  have HS : Hid (Sl w a n xs) := hs
  clear hs
  go_enter Yba.func3, Yba.ntmps3
  go_upto_if 26 with fail
  go_cut [7] (fun s7 wx => ∃ ac, s7 = .slice ac n n ∧ (ac = none → n = 0) ∧ Sl wx ac n xs ∧ Below w.heap.size w wx)
  case first =>
    cases a with
    | none =>
      obtain rfl := hnil rfl
      go_wp2_with fail
      go_meet
      case rel => exact ⟨none, rfl, fun _ => by trivial, ⟨HS.out.len, .inl rfl⟩, Below.refl _ _⟩
    | some x =>
      go_wp2_with (at_make; refine wpList_make_full _ rfl _ _ 22 rfl w.heap.size 5 i5 (.int .u8 0) 1 Yba.underlying22 hi hz0 hz1 _ _ _ _ n rfl rfl (by omega) (by omega) (by rw [hz2]; omega) (by unfold maxLen; omega) (by simp) ?_)
      intro w1 hown1 hgrow1
      have hb1 : Below w.heap.size w w1 := (Below.refl _ _).grown hgrow1 (Nat.le_refl _) (fun k hk => by cases hk)
      obtain ⟨cur, hcur, hsz⟩ := made_row hown1
      have hs1 := HS.out.later hb1
      have hcl := hs1.cells x rfl
      have hlen := hs1.len
      clear hown1 hgrow1
      have hcopy := copy_full w1 w.heap.size n c x cur xs hcur hsz hlen hcl
      have hsr := copied_row w1 w.heap.size n cur xs hcur hlen
      have hbr := below_setRow hb1 (Nat.le_refl _) (xs.map (Value.int .u8)).toArray
      generalize w1.setRow w.heap.size (xs.map (Value.int .u8)).toArray = w2 at *
      clear hcl hs1
      go_wp2_with fail
      go_meet
      case rel => exact ⟨some ⟨w.heap.size, 0, none⟩, rfl, (fun h => by cases h), hsr, hbr⟩
  case rest =>
    obtain ⟨ac, rfl, hac, hsc, hbc⟩ := hcut
    go_wp2_with fail
    refine (hex_any ac n xs v D wc hv0 hv1 hD1 hD2 hn hac hsc).mono ?_
    rintro e w2 ⟨a2, c2, rfl, hc2, hs2, hb2⟩
    dsimp only
    have HB : Hid (Sl w2 a n xs) := (HS.out.later hbc).later hb2
    have HCP : Hid (Sl w2 ac n xs) := hsc.later hb2
    have HG : Hid (Sl w2 a2 (n + D.toNat) (xs ++ hexTo v D.toNat D.toNat)) := hs2
    have HBEL : Hid (Below w.heap.size w w2) := hbc.trans (hb2.mono hbc.size)
    have HDN : Hid (D.toNat = if D < 0 then 0 else D.toNat) := by unfold Hid; split <;> omega
    clear hs2 hb2 hbc hsc HS hac
    have hDD : (D < 0 ∧ D.toNat = 0) ∨ (0 ≤ D ∧ D = (D.toNat : Int)) := by omega
    have hN : D.toNat ≤ 4096 := by omega
    generalize D.toNat = N at *
    go_upto_if 39 with fail
    go_cut [9] (fun s9 wx => s9 = .int .i64 (N : Int) ∧ wx = w2)
    case first =>
      rcases hDD with ⟨h1, h2⟩ | ⟨h1, h2⟩
      · have H2 : Hid (N = 0) := h2
        clear h2
        go_wp2_with fail
        go_meet
        case rel => exact ⟨by rw [H2.out]; rfl, rfl⟩
      · have H2 : Hid (D = (N : Int)) := h2
        clear h2
        go_wp2_with fail
        go_meet
        case rel => exact ⟨by rw [H2.out], rfl⟩
    case rest =>
      obtain ⟨rfl, rfl⟩ := hcut
      clear hDD
      go_wp2_with fail
      go_loopw [10] (fun i wr => ∃ k : Nat, k ≤ n ∧ i = .int .i64 k ∧ ∃ q, wr = wc.drewN q) (fun i _ => n - (intOf i).toNat)
      case atStart => exact ⟨0, by omega, rfl, 0, rfl⟩
      case round =>
        obtain ⟨k, hk, rfl, q, rfl⟩ := hrel
        by_cases hlt : k < n
        · obtain ⟨g1, o1, rfl, _, c1⟩ : ∃ g off, a = some ⟨g, off, none⟩ ∧ g < wc.heap.size ∧ ∀ i, i < n → wc.cell? ⟨g, off + i, none⟩ = some (.int .u8 (xs.getD i 0)) := by
            rcases HB.out.at_ with h | h
            · omega
            · exact h
          obtain ⟨g3, o3, rfl, _, c3⟩ : ∃ g off, ac = some ⟨g, off, none⟩ ∧ g < wc.heap.size ∧ ∀ i, i < n → wc.cell? ⟨g, off + i, none⟩ = some (.int .u8 (xs.getD i 0)) := by
            rcases HCP.out.at_ with h | h
            · omega
            · exact h
          obtain ⟨g2, o2, rfl, _, c2'⟩ : ∃ g off, a2 = some ⟨g, off, none⟩ ∧ g < wc.heap.size ∧ ∀ i, i < n + N → wc.cell? ⟨g, off + i, none⟩ = some (.int .u8 ((xs ++ hexTo v N N).getD i 0)) := by
            rcases HG.out.at_ with h | h
            · omega
            · exact h
          have e1 := c1 k hlt
          have e3 := c3 k hlt
          have e2 := c2' k (by omega)
          rw [show (xs ++ hexTo v N N).getD k 0 = xs.getD k 0 from by
            have := HB.out.len
            simp [List.getD, List.getElem?_append_left (show k < xs.length by omega)]] at e2
          clear c1 c3 c2'
          generalize xs.getD k 0 = x at e1 e2 e3
          have b1 : (0 : Int) ≤ (k : Int) := by omega
          have b2 : (k : Int) < (n : Int) := by omega
          have b3 : (k : Int) < (n : Int) + (N : Int) := by omega
          have b4 : (x != x) = false := by simp
          go_wp2
          go_quiet (fail)
          go_wp2
          go_roundw
          case rel => exact ⟨k + 1, by omega, by go_num, _, rfl⟩
          case measure => simp [intOf]; omega
        · go_wp2_with fail
          go_loopw [11] (fun i wr => ∃ k : Nat, k ≤ N ∧ i = .int .i64 k ∧ ∃ q, wr = wc.drewN q) (fun i _ => N - (intOf i).toNat)
          case atStart => exact ⟨0, by omega, rfl, q, rfl⟩
          case round =>
            obtain ⟨m, hm, rfl, q2, rfl⟩ := hrel
            by_cases hlm : m < N
            · obtain ⟨g2, o2, rfl, _, c2'⟩ : ∃ g off, a2 = some ⟨g, off, none⟩ ∧ g < wc.heap.size ∧ ∀ i, i < n + N → wc.cell? ⟨g, off + i, none⟩ = some (.int .u8 ((xs ++ hexTo v N N).getD i 0)) := by
                rcases HG.out.at_ with h | h
                · omega
                · exact h
              have e2 := c2' (n + m) (by omega)
              rw [show (xs ++ hexTo v N N).getD (n + m) 0 = sign (nibble v (N - 1 - m)) from by
                have hl := HB.out.len
                rw [List.getD, List.getElem?_append_right (by omega)]
                simp [hexTo, hl, hlm]] at e2
              clear c2'
              have b1 : (0 : Int) ≤ (n : Int) + (m : Int) := by omega
              have b2 : (n : Int) + (m : Int) < (n : Int) + (N : Int) := by omega
              by_cases hp : N - 1 - m < 8
              · obtain ⟨hq0, hq1, hq2⟩ := nibble_div v (N - 1 - m) hp hv0 hv1
                have HNB : Hid (v / ((2 : Int) ^ (4 * (N - 1 - m)) % 4294967296) % 16 = nibble v (N - 1 - m)) := by unfold Hid nibble; rw [if_pos hp, pow_small _ hp]
                obtain ⟨P, hP⟩ : ∃ P, (2 : Int) ^ (4 * (N - 1 - m)) % 4294967296 = P := ⟨_, rfl⟩
                rw [hP] at hq0 hq1 hq2 HNB
                rw [← HNB.out] at e2
                have hd0 : 0 ≤ v / P % 16 := by omega
                have hd1 : v / P % 16 < 16 := by omega
                have hwr : IntKind.i64.wrap ((n : Int) + (m : Int)) = (n : Int) + (m : Int) := by rw [IntKind.wrap_i64]; omega
                have htn : ((n : Int) + (m : Int)).toNat = n + m := by omega
                go_wp2_with fail
                have b4 : (sign (v / P % 16) != sign (v / P % 16)) = false := by simp
                clear HNB hP
                generalize v / P % 16 = d at *
                go_quiet ((go_at_call 6; refine (digit_any _ hd0 hd1 _).mono (fun _ _ ⟨he, hm⟩ => ⟨he, _, hm⟩)))
                go_wp2
                go_roundw
                case rel => exact ⟨m + 1, by omega, by go_num, _, rfl⟩
                case measure => simp [intOf]; omega
              · have hz : nibble v (N - 1 - m) = 0 := by unfold nibble; rw [if_neg hp]
                rw [hz] at e2
                have hwr : IntKind.i64.wrap ((n : Int) + (m : Int)) = (n : Int) + (m : Int) := by rw [IntKind.wrap_i64]; omega
                have htn : ((n : Int) + (m : Int)).toNat = n + m := by omega
                have b4 : (sign 0 != sign 0) = false := by simp
                go_wp2_with fail
                go_quiet ((go_at_call 6; refine (digit_any _ (by decide) (by decide) _).mono (fun _ _ ⟨he, hm⟩ => ⟨he, _, hm⟩)))
                go_wp2
                go_roundw
                case rel => exact ⟨m + 1, by omega, by go_num, _, rfl⟩
                case measure => simp [intOf]; omega
            · go_wp2
              go_ret
              exact ⟨rfl, below_drewN HBEL.out _⟩
end Go.Proofs.Ybulkedgy
