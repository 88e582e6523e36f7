import Derived.Test.YbulkedccProg
import Derived.Test.YbulkedccPlain
import Derived.WalkKit
import Derived.WalkSpells
import Derived.Deep.QuietTactic
import Derived.BigQuiet
import Derived.Below
namespace Go.Proofs.Ybulkedcc
open Go.RowKit Plain

/-- A slice of bytes in the world: its numbers, and where they lie if there are any. -/
structure Bs (w : World) (a : Option Addr) (n : Nat) (xs : List Int) : Prop where
  len : xs.length = n
  byte : ∀ i, 0 ≤ xs.getD i 0 ∧ xs.getD i 0 < 256
  at_ : n = 0 ∨ ∃ b off, a = some ⟨b, off, none⟩ ∧ b < w.heap.size ∧ ∀ i, i < n → w.cell? ⟨b, off + i, none⟩ = some (.int .u8 (xs.getD i 0))

theorem below_drewN {B : Nat} {w w' : World} (h : Below B w w') (q : Nat) : Below B w (w'.drewN q) := ⟨h.os, h.tape, h.output, h.size, h.block⟩

theorem ret_bool {a b : Bool} (h : a = b) : Ending.returned (.bool a) = .returned (.bool b) := by rw [h]

def hasB (xs : List Int) (i : Nat) (b : ByteArray) : Bool := (nums b.data.toList).isPrefixOf (xs.drop i)

theorem hasB_short {xs : List Int} {i : Nat} {b : ByteArray} (h : xs.length < i + b.size) (hi : i ≤ xs.length) : hasB xs i b = false := by
  unfold hasB
  rw [Bool.eq_false_iff]
  intro hp
  have := (List.isPrefixOf_iff_prefix.1 hp).length_le
  simp [nums] at this
  have e : b.data.size = b.size := rfl
  omega

theorem hasB_ne {xs : List Int} {i : Nat} {b : ByteArray} {k : Nat} (hk : k < b.size) (hne : xs.getD (i + k) 0 ≠ ((b[k]).toNat : Int)) : hasB xs i b = false := by
  unfold hasB
  rw [Bool.eq_false_iff]
  intro hp
  obtain ⟨t, ht⟩ := List.isPrefixOf_iff_prefix.1 hp
  apply hne
  have e : b.data.size = b.size := rfl
  have h1 : (xs.drop i)[k]? = some ((b[k]).toNat : Int) := by
    rw [← ht, List.getElem?_append_left (by simp [nums]; omega)]
    simp [nums]
    exact ⟨b[k], by rw [Array.getElem?_eq_getElem (by omega)]; rfl, rfl⟩
  rw [List.getElem?_drop] at h1
  simp [List.getD, h1]

theorem hasB_all {xs : List Int} {i : Nat} {b : ByteArray} (h : i + b.size ≤ xs.length) (hall : ∀ k (hk : k < b.size), xs.getD (i + k) 0 = ((b[k]).toNat : Int)) : hasB xs i b = true := by
  unfold hasB
  rw [List.isPrefixOf_iff_prefix]
  have e : b.data.size = b.size := rfl
  refine ⟨(xs.drop i).drop b.size, ?_⟩
  apply List.ext_getElem?
  intro k
  by_cases hk : k < b.size
  · rw [List.getElem?_append_left (by simp [nums]; omega), List.getElem?_drop]
    have := hall k hk
    simp [List.getD, List.getElem?_eq_getElem (show i + k < xs.length by omega)] at this
    rw [List.getElem?_eq_getElem (show i + k < xs.length by omega), this]
    simp [nums]
    exact ⟨b[k], by rw [Array.getElem?_eq_getElem (by omega)]; rfl, rfl⟩
  · rw [List.getElem?_append_right (by simp [nums]; omega)]
    simp [nums]
    congr 1
    omega

set_option maxHeartbeats 800000 in
theorem has_any (a : Option Addr) (n c : Nat) (xs : List Int) (i : Nat) (b : ByteArray) (w : World) (hb : Bs w a n xs) (hn : n ≤ 2000000000) (hi : i ≤ n) (hs : b.size ≤ 100) :
    Calls Yba.prog 12 #[.slice a n c, .int .i64 i, .string b] w fun e w' => e = .returned (.bool (hasB xs i b)) ∧ ∃ q, w' = w.drewN q := by
  obtain ⟨hlen, hbyte, hat⟩ := hb
  by_cases hsh : n < i + b.size
  · have hv := hasB_short (xs := xs) (b := b) (i := i) (by omega) (by omega)
    rw [hv]
    clear hv
    go_enter Yba.func12, Yba.ntmps12
    go_wp2
    go_ret
    exact ⟨rfl, 0, rfl⟩
  · have hz : n = 0 ∨ 0 < n := by omega
    go_enter Yba.func12, Yba.ntmps12
    go_wp2
    go_loopw [7] (fun j wr => ∃ k : Nat, k ≤ b.size ∧ j = .int .i64 k ∧ (∀ m (hm : m < b.size), m < k → xs.getD (i + m) 0 = ((b[m]).toNat : Int)) ∧ ∃ q, wr = w.drewN q) (fun j _ => b.size - (intOf j).toNat)
    case atStart => exact ⟨0, Nat.zero_le _, rfl, fun m _ h => by omega, 0, rfl⟩
    case round =>
      obtain ⟨k, hk, rfl, hall, q, rfl⟩ := hrel
      by_cases hlt : k < b.size
      · obtain ⟨bk, off, rfl, hbk, hcell⟩ : ∃ b' off, a = some ⟨b', off, none⟩ ∧ b' < w.heap.size ∧ ∀ i, i < n → w.cell? ⟨b', off + i, none⟩ = some (.int .u8 (xs.getD i 0)) := by
          rcases hat with h | h
          · omega
          · exact h
        have hc := hcell (i + k) (by omega)
        have hb1 : (0 : Int) ≤ (i : Int) + (k : Int) := by omega
        have hb2 : (i : Int) + (k : Int) < (n : Int) := by omega
        have hx := hbyte (i + k)
        generalize hxk : xs.getD (i + k) 0 = x at hc hx
        have HX : Hid (xs.getD (i + k) 0 = x) := hxk
        clear hxk hcell hat hbyte
        have HA : Hid (∀ m (hm : m < b.size), m < k → xs.getD (i + m) 0 = ((b[m]).toNat : Int)) := hall
        clear hall
        have hwr : IntKind.i64.wrap ((i : Int) + (k : Int)) = (i : Int) + (k : Int) := by rw [IntKind.wrap_i64]; omega
        have hk1 : (k : Int) < (b.size : Int) := by omega
        have hto : ((i : Int) + (k : Int)).toNat = i + k := by omega
        by_cases hne : x = ((b[k]).toNat : Int)
        · have ht : (x != ((b[k]).toNat : Int)) = false := by simp [hne]
          have HN : Hid (x = ((b[k]).toNat : Int)) := hne
          clear hne
          go_wp2
          go_quiet (fail)
          go_wp2
          go_roundw
          case rel =>
            refine ⟨k + 1, by omega, by go_num, fun m hm h => ?_, _, rfl⟩
            by_cases e : m = k
            · subst e; rw [HX.out, HN.out]
            · exact HA.out m hm (by omega)
          case measure => simp [intOf]; omega
        · have hv := hasB_ne (xs := xs) (i := i) hlt (by rw [HX.out]; exact hne)
          have ht : (x != ((b[k]).toNat : Int)) = true := by simp [hne]
          have HV : Hid (hasB xs i b = false) := hv
          clear hv hne
          go_wp2
          go_quiet (fail)
          go_wp2
          go_ret
          exact ⟨ret_bool HV.out.symm, _, World.drewN_drewN _ _ _⟩
      · have HV : Hid (hasB xs i b = true) := hasB_all (by omega) (fun m hm => hall m hm (by omega))
        go_wp2
        go_ret
        exact ⟨ret_bool HV.out.symm, q, rfl⟩
end Go.Proofs.Ybulkedcc
