import Derived.Test.YbulkedgyDigit
import Derived.ArgAppend
import Derived.Laws.Bits64
import Derived.Laws.BitsAllLaws
namespace Go.Proofs.Ybulkedgy
open Go.RowKit
theorem Yba.info5 : (Yba.prog.info? 5).map (fun i => (i.zero, i.size, i.bytes)) = some (some (.int .u8 0), 1, 1) := by kernel_rfl

/-- Nibble number p of v; nothing beyond the eighth. -/
def nibble (v : Int) (p : Nat) : Int := if p < 8 then v / 2 ^ (4 * p) % 16 else 0

theorem nat_and_15 (n : Nat) : n &&& 15 = n % 16 := Nat.and_two_pow_sub_one_eq_mod n 4
theorem and15 (x : Int) : bits .and .u32 x 15 = x % 4294967296 % 16 := by
  unfold bits
  have e : (BitVec.ofInt 32 x &&& BitVec.ofInt 32 15).toNat = (x % 4294967296).toNat % 16 := by
    rw [BitVec.toNat_and, BitVec.toNat_ofInt]
    exact nat_and_15 _
  show IntKind.u32.wrap ((BitVec.ofInt 32 x &&& BitVec.ofInt 32 15).toNat : Int) = _
  rw [e, IntKind.wrap_u32]
  omega

theorem nibble_bits (v : Int) (p : Nat) (h0 : 0 ≤ v) (h1 : v < 4294967296) : bits .and .u32 (v / 2 ^ min (4 * p) 32) 15 = nibble v p := by
  rw [and15]
  unfold nibble
  by_cases hp : p < 8
  · rw [if_pos hp, Nat.min_eq_left (by omega)]
    match p, hp with
    | 0, _ | 1, _ | 2, _ | 3, _ | 4, _ | 5, _ | 6, _ | 7, _ => simp
  · rw [if_neg hp, Nat.min_eq_right (by omega)]
    have : v / 2 ^ 32 = 0 := by
      have e : (2 : Int) ^ 32 = 4294967296 := by decide
      rw [e]; omega
    rw [this]; decide

theorem nibble_bound (v : Int) (p : Nat) : 0 ≤ nibble v p ∧ nibble v p < 16 := by
  unfold nibble
  split <;> omega

abbrev hexs : ByteArray := ⟨#[48, 49, 50, 51, 52, 53, 54, 55, 56, 57, 65, 66, 67, 68, 69, 70]⟩
theorem ix0 (w : World) : (Instr.index 9 (.string hexs) (.int .u32 0)).run Yba.prog w = .ok (.int .u8 48) w := by kernel_rfl
theorem ix1 (w : World) : (Instr.index 9 (.string hexs) (.int .u32 1)).run Yba.prog w = .ok (.int .u8 49) w := by kernel_rfl
theorem ix2 (w : World) : (Instr.index 9 (.string hexs) (.int .u32 2)).run Yba.prog w = .ok (.int .u8 50) w := by kernel_rfl
theorem ix3 (w : World) : (Instr.index 9 (.string hexs) (.int .u32 3)).run Yba.prog w = .ok (.int .u8 51) w := by kernel_rfl
theorem ix4 (w : World) : (Instr.index 9 (.string hexs) (.int .u32 4)).run Yba.prog w = .ok (.int .u8 52) w := by kernel_rfl
theorem ix5 (w : World) : (Instr.index 9 (.string hexs) (.int .u32 5)).run Yba.prog w = .ok (.int .u8 53) w := by kernel_rfl
theorem ix6 (w : World) : (Instr.index 9 (.string hexs) (.int .u32 6)).run Yba.prog w = .ok (.int .u8 54) w := by kernel_rfl
theorem ix7 (w : World) : (Instr.index 9 (.string hexs) (.int .u32 7)).run Yba.prog w = .ok (.int .u8 55) w := by kernel_rfl
theorem ix8 (w : World) : (Instr.index 9 (.string hexs) (.int .u32 8)).run Yba.prog w = .ok (.int .u8 56) w := by kernel_rfl
theorem ix9 (w : World) : (Instr.index 9 (.string hexs) (.int .u32 9)).run Yba.prog w = .ok (.int .u8 57) w := by kernel_rfl
theorem ix10 (w : World) : (Instr.index 9 (.string hexs) (.int .u32 10)).run Yba.prog w = .ok (.int .u8 65) w := by kernel_rfl
theorem ix11 (w : World) : (Instr.index 9 (.string hexs) (.int .u32 11)).run Yba.prog w = .ok (.int .u8 66) w := by kernel_rfl
theorem ix12 (w : World) : (Instr.index 9 (.string hexs) (.int .u32 12)).run Yba.prog w = .ok (.int .u8 67) w := by kernel_rfl
theorem ix13 (w : World) : (Instr.index 9 (.string hexs) (.int .u32 13)).run Yba.prog w = .ok (.int .u8 68) w := by kernel_rfl
theorem ix14 (w : World) : (Instr.index 9 (.string hexs) (.int .u32 14)).run Yba.prog w = .ok (.int .u8 69) w := by kernel_rfl
theorem ix15 (w : World) : (Instr.index 9 (.string hexs) (.int .u32 15)).run Yba.prog w = .ok (.int .u8 70) w := by kernel_rfl
theorem index_hex (d : Int) (h0 : 0 ≤ d) (h1 : d < 16) (w : World) :
    (Instr.index 9 (.string ⟨#[48, 49, 50, 51, 52, 53, 54, 55, 56, 57, 65, 66, 67, 68, 69, 70]⟩) (.int .u32 d)).run Yba.prog w = .ok (.int .u8 (sign d)) w := by
  have hs : d = 0 ∨ d = 1 ∨ d = 2 ∨ d = 3 ∨ d = 4 ∨ d = 5 ∨ d = 6 ∨ d = 7 ∨ d = 8 ∨ d = 9 ∨ d = 10 ∨ d = 11 ∨ d = 12 ∨ d = 13 ∨ d = 14 ∨ d = 15 := by omega
  rcases hs with rfl | rfl | rfl | rfl | rfl | rfl | rfl | rfl | rfl | rfl | rfl | rfl | rfl | rfl | rfl | rfl
  · exact ix0 w
  · exact ix1 w
  · exact ix2 w
  · exact ix3 w
  · exact ix4 w
  · exact ix5 w
  · exact ix6 w
  · exact ix7 w
  · exact ix8 w
  · exact ix9 w
  · exact ix10 w
  · exact ix11 w
  · exact ix12 w
  · exact ix13 w
  · exact ix14 w
  · exact ix15 w

/-- The first k signs of the N lowest nibbles of v, the greatest first. -/
def hexTo (v : Int) (N k : Nat) : List Int := (List.range k).map fun j => sign (nibble v (N - 1 - j))
theorem hexTo_succ (v : Int) (N k : Nat) : hexTo v N (k + 1) = hexTo v N k ++ [sign (nibble v (N - 1 - k))] := by
  simp [hexTo, List.range_succ]
theorem hexTo_length (v : Int) (N k : Nat) : (hexTo v N k).length = k := by simp [hexTo]

theorem owns_base {w : World} {B B' : Nat} {e : TypeId} {size : Nat} {v : Value} {n : Nat} {xs : List Value} (h : w.ownsRow B e size v n xs) (hB : B' ≤ B) : w.ownsRow B' e size v n xs := by
  obtain ⟨h1, h2⟩ := h
  refine ⟨h1, ?_⟩
  rcases h2 with h2 | ⟨g, cap, cur, hv, hg, r⟩
  · exact .inl h2
  · exact .inr ⟨g, cap, cur, hv, by omega, r⟩

theorem one_cell (w : World) (u : Value) : ∀ j x, [u][j]? = some x → (w.alloc (.cells #[u] 5)).cell? ((⟨w.heap.size, 0, none⟩ : Addr).add j) = some x := by
  intro j x hj
  match j, hj with
  | 0, hj => simp at hj; subst hj; simp [Addr.add]

set_option maxHeartbeats 1600000 in
/-- At least one digit. -/
theorem hex_pos (a : Option Addr) (n : Nat) (xs : List Int) (v : Int) (N : Nat) (w : World) (hv0 : 0 ≤ v) (hv1 : v < 4294967296) (hN : 1 ≤ N) (hN2 : N ≤ 4096) (hn : n ≤ 1048576) (hl : xs.length = n) (hnil : a = none → n = 0)
    (hc : ∀ b, a = some b → ∀ j u, (xs.map (Value.int .u8))[j]? = some u → w.cell? (b.add j) = some u) :
    Calls Yba.prog 5 #[.slice a n n, .int .u32 v, .int .i64 N] w fun e w' => ∃ v', e = .returned v' ∧ w'.ownsRow w.heap.size 5 1 v' (n + N) ((xs ++ hexTo v N N).map (Value.int .u8)) ∧ Below w.heap.size w w' := by
  obtain ⟨i5, hi, hz0, hz1, hz2⟩ := info_parts Yba.info5
  have HC : Hid (∀ b, a = some b → ∀ j u, (xs.map (Value.int .u8))[j]? = some u → w.cell? (b.add j) = some u) := hc
  clear hc
  go_enter Yba.func5, Yba.ntmps5
  go_wp2
  go_loopw [0, 7] (fun b sh wr => ∃ k : Nat, k ≤ N ∧ sh = .int .i64 (4 * ((N : Int) - 1 - k)) ∧ ((k = 0 ∧ b = .slice a n n ∧ wr = w) ∨ (1 ≤ k ∧ wr.ownsRow w.heap.size 5 1 b (n + k) ((xs ++ hexTo v N k).map (Value.int .u8)) ∧ Below w.heap.size w wr))) (fun _ i _ => ((intOf i) + 4).toNat)
  case atStart => exact ⟨0, by omega, by go_num, .inl ⟨rfl, rfl, rfl⟩⟩
  case round =>
    obtain ⟨k, hk, rfl, hst⟩ := hrel
    by_cases hlt : k < N
    · have hd := nibble_bits v (N - 1 - k) hv0 hv1
      have hb := nibble_bound v (N - 1 - k)
      have HS : Hid (hexTo v N (k + 1) = hexTo v N k ++ [sign (nibble v (N - 1 - k))]) := hexTo_succ v N k
      generalize nibble v (N - 1 - k) = d at hd hb HS
      have hix := index_hex d hb.1 hb.2
      rcases hst with ⟨rfl, rfl, hwr⟩ | ⟨hk1, hown, hbel⟩
      · have hwr' := hwr.symm
        subst hwr'
        simp only [Nat.sub_zero] at hd
        have hnews : ∀ b, a = some b → ∀ j u, (xs.map (Value.int .u8))[j]? = some u → (w.alloc (.cells #[.int .u8 (sign d)] 5)).cell? (b.add j) = some u := fun b hb j u hj => by
          have e := HC.out b hb j u hj
          have bb : Below w.heap.size w (w.alloc (.cells #[.int .u8 (sign d)] 5)) := (Below.refl _ _).alloc (Nat.le_refl _) _
          exact (bb.cell (World.block_lt_of_cell? w _ e)).trans e
        go_wp2_with (at_builtin; refine wpList_append_grows _ rfl _ _ 22 rfl 5 i5 (.int .u8 0) 1 1 Yba.underlying22 hi hz0 hz1 hz2 rfl (by decide) a n n (xs.map (Value.int .u8)) rfl (fun h => ⟨hnil h, hnil h⟩) (by simp; omega) hnews ⟨w.heap.size, 0, none⟩ 1 1 [.int .u8 (sign d)] rfl rfl (one_cell w _) (ints_oneCell .u8 [sign d]) (by omega) (by unfold maxLen; omega) (by omega) ?_)
        intro v1 w1 hown1 hgrow1
        have hb1 : Below w.heap.size w w1 := Below.grown (((Below.refl _ _).alloc (Nat.le_refl _) _)) hgrow1 (by simp) (fun k hk => by cases hk)
        have ho1 : w1.ownsRow w.heap.size 5 1 v1 (n + (0 + 1)) ((xs ++ hexTo v N (0 + 1)).map (Value.int .u8)) := by
          rw [HS.out]
          have e : hexTo v N 0 = [] := rfl
          rw [e, List.nil_append, List.map_append]
          exact owns_base hown1 (by simp)
        clear hown1 hgrow1 hnews
        go_wp2
        go_roundw
        case rel => exact ⟨0 + 1, by omega, by go_num, .inr ⟨by omega, ho1, hb1⟩⟩
        case measure => simp [intOf]; omega
      · have hsz := hbel.size
        go_wp2_with (at_builtin; refine wpList_append_own _ rfl _ _ 22 rfl w.heap.size 5 i5 (.int .u8 0) 1 1 Yba.underlying22 hi hz0 hz1 hz2 rfl (by decide) _ _ _ rfl (hown.alloc _) ⟨wr.heap.size, 0, none⟩ 1 1 [.int .u8 (sign d)] rfl rfl (one_cell wr _) (ints_oneCell .u8 [sign d]) (by unfold maxLen; omega) (by omega) (by simp; omega) ?_)
        intro v1 w1 hown1 hgrow1 _
        have hb1 : Below w.heap.size w w1 := (hbel.alloc hsz _).grown hgrow1 (by simp; omega) (fun k hk => (hown.lt k hk).1)
        have ho1 : w1.ownsRow w.heap.size 5 1 v1 (n + (k + 1)) ((xs ++ hexTo v N (k + 1)).map (Value.int .u8)) := by
          rw [HS.out, List.map_append, List.map_append]
          exact hown1
        clear hown1 hgrow1 hown hbel
        go_wp2
        go_roundw
        case rel => exact ⟨k + 1, by omega, by go_num, .inr ⟨by omega, ho1, hb1⟩⟩
        case measure => simp [intOf]; omega
    · have hkN : k = N := by omega
      subst hkN
      rcases hst with ⟨h0, _, _⟩ | ⟨hk1, hown, hbel⟩
      · omega
      · go_wp2
        go_ret
        exact ⟨_, rfl, hown, hbel⟩
end Go.Proofs.Ybulkedgy
