import Derived.Test.YbulkedjqT1b
namespace Go.Proofs.Ybulkedjq
open Go.RowKit

set_option maxRecDepth 100000 in
theorem law_out (all : Bool) (now due sel : Int) (a : Option Addr) (cp n : Nat) (w0 : World) (hn : 4096 < n) (hm : n ≤ 9223372036854775807) :
    Calls Yba.prog 3 #[.bool all, .int .i64 now, .int .i64 due, .int .u8 sel, .slice a n cp] w0 fun e w' => e = .returned (.bool true) ∧ Below w0.heap.size w0 w' := by
  go_enter Yba.func3, Yba.ntmps3
  go_wp2_with fail
  go_ret
  exact ⟨rfl, Below.refl _ _⟩

/-- The loop that makes the slices, k of them made. -/
structure LInv (w1 : World) (sb n : Nat) (S E : Nat → Int) (F : Nat → Bool) (k : Nat) (wr : World) : Prop where
  row : ∃ R, Blk wr sb 25 R ∧ R.size = n ∧ ∀ p, p < k → R[p]? = some (ptr (w1.heap.size + p))
  sl : ∀ i, i < k → Blk wr (w1.heap.size + i) 30 #[.int .i64 (S i), .int .i64 (E i), .pointer none, .bool (F i)]
  size : wr.heap.size = w1.heap.size + k
  keep : Keep (· = sb) w1 wr

theorem LInv.step {w1 : World} {sb n : Nat} {S E : Nat → Int} {F : Nat → Bool} {k : Nat} {wr : World} (h : LInv w1 sb n S E F k wr) (hsb : sb < w1.heap.size) (hk : k < n) :
    LInv w1 sb n S E F (k + 1) ((wr.alloc (.cells #[.int .i64 (S k), .int .i64 (E k), .pointer none, .bool (F k)] 30)).setCell ⟨sb, k, none⟩ (ptr wr.heap.size)).drew := by
  have hz := h.size
  have k1 := Keep.alloc wr (.cells #[.int .i64 (S k), .int .i64 (E k), .pointer none, .bool (F k)] 30)
  have k2 := Keep.set (wr.alloc (.cells #[.int .i64 (S k), .int .i64 (E k), .pointer none, .bool (F k)] 30)) sb k (ptr wr.heap.size)
  refine ⟨?_, fun i hi => ?_, ?_, ?_⟩
  · obtain ⟨R, bR, hs, hR⟩ := h.row
    refine ⟨_, (k1.blk bR id).set k (ptr wr.heap.size), by simpa using hs, fun p hp => ?_⟩
    by_cases e : p = k
    · subst e
      rw [Array.getElem?_setIfInBounds_self_of_lt (by omega), hz]
    · rw [Array.getElem?_setIfInBounds_ne (by omega), hR p (by omega)]
  · by_cases e : i = k
    · subst e
      have b := Blk.new wr 30 #[.int .i64 (S i), .int .i64 (E i), .pointer none, .bool (F i)]
      have b2 := k2.blk b (by omega)
      rw [hz] at b2
      rw [hz]
      exact b2
    · exact k2.blk (k1.blk (h.sl i (by omega)) id) (by omega)
  · show (((wr.alloc _).setCell _ _).heap).size = _
    simp [hz]
    omega
  · exact ((h.keep.then k1 fun _ _ e => e.elim).trans k2).drewN 1

set_option maxHeartbeats 3200000 in
set_option maxRecDepth 100000 in
theorem law_in (all : Bool) (now due sel : Int) (a : Option Addr) (cp n : Nat) (S E : Nat → Int) (F : Nat → Bool) (w0 : World) (hn : n ≤ 4096) (hs0 : 0 ≤ sel) (hs1 : sel < 256) (hn1 : -9223372036854775808 ≤ now) (hn2 : now ≤ 9223372036854775807) (hsp : Spn w0 a n S E F) :
    Calls Yba.prog 3 #[.bool all, .int .i64 now, .int .i64 due, .int .u8 sel, .slice a n cp] w0 fun e w' => e = .returned (.bool true) ∧ Below w0.heap.size w0 w' := by
  obtain ⟨i25, hi, hz0, hz1, hz2⟩ := info_parts info25
  have HSP := Hid.mk' hsp
  clear hsp
  obtain ⟨r, hr, hr6⟩ : ∃ r : Nat, sel % 6 = (r : Int) ∧ r < 6 := ⟨(sel % 6).toNat, by omega, by omega⟩
  have hrn : (r : Int).toNat = r := by omega
  have b1 : (0 : Int) ≤ (r : Int) := by omega
  have b2 : (r : Int) < 6 := by omega
  obtain ⟨fin, hfin, hd, hd2⟩ : ∃ fin : Int, (w0.alloc (.cells #[.int .i64 1000, .int .i64 2000, .int .i64 5000, .int .i64 60000, .int .i64 300000, .int .i64 3600000] 23)).cell? ⟨w0.heap.size, r, none⟩ = some (.int .i64 fin) ∧ 0 < fin ∧ fin ≤ 3600000 := by
    have b := Blk.new w0 23 #[.int .i64 1000, .int .i64 2000, .int .i64 5000, .int .i64 60000, .int .i64 300000, .int .i64 3600000]
    match r, hr6 with
    | 0, _ => exact ⟨_, b.cell 0, by omega, by omega⟩
    | 1, _ => exact ⟨_, b.cell 1, by omega, by omega⟩
    | 2, _ => exact ⟨_, b.cell 2, by omega, by omega⟩
    | 3, _ => exact ⟨_, b.cell 3, by omega, by omega⟩
    | 4, _ => exact ⟨_, b.cell 4, by omega, by omega⟩
    | 5, _ => exact ⟨_, b.cell 5, by omega, by omega⟩
  go_enter Yba.func3, Yba.ntmps3
  go_upto_region 6 with fail
  have HBA : Hid (Below w0.heap.size w0 (w0.alloc (.cells #[.int .i64 1000, .int .i64 2000, .int .i64 5000, .int .i64 60000, .int .i64 300000, .int .i64 3600000] 23))) := (Below.refl _ _).alloc (Nat.le_refl _) _
  have HNA : Hid ((w0.alloc (.cells #[.int .i64 1000, .int .i64 2000, .int .i64 5000, .int .i64 60000, .int .i64 300000, .int .i64 3600000] 23)).heap.size = w0.heap.size + 1) := by unfold Hid; simp
  generalize (w0.alloc (.cells #[.int .i64 1000, .int .i64 2000, .int .i64 5000, .int .i64 60000, .int .i64 300000, .int .i64 3600000] 23)) = w at *
  clear hfin hr hrn hr6 b1 b2
  go_wp2_with (at_make; refine wpList_make_full _ rfl _ _ 24 rfl w.heap.size 25 i25 (.pointer none) 1 Yba.underlying24 hi hz0 hz1 _ _ _ _ n rfl rfl (by omega) (by omega) (by rw [hz2]; omega) (by unfold maxLen; omega) (by simp) ?_)
  intro w1 hown1 hgrow1
  have HU := Hid.mk' (made_blk (z := .pointer none) hown1)
  have HK1 := Hid.mk' (Keep.grown hgrow1)
  clear hown1 hgrow1
  go_wp2_with fail
  rename_i Q' K hK
  have HK := Hid.mk' hK
  clear hK
  go_loopw [15] (fun i wr => ∃ k : Nat, k ≤ n ∧ i = .int .i64 k ∧ LInv w1 w.heap.size n S E F k wr) (fun i _ => n - (intOf i).toNat)
  case atStart => exact ⟨0, by omega, rfl, ⟨_, HU.out, by simp, fun p hp => absurd hp (by omega)⟩, fun i hi => absurd hi (by omega), by omega, Keep.refl _ _⟩
  case round =>
    obtain ⟨k, hk, rfl, hI⟩ := hrel
    have HI := Hid.mk' hI
    clear hI
    by_cases hlt : k < n
    · obtain ⟨ab, ao, rfl, hc⟩ : ∃ ab ao, a = some ⟨ab, ao, none⟩ ∧ ∀ i, i < n → w0.cell? ⟨ab, ao + i * 3, none⟩ = some (.int .i64 (S i)) ∧ w0.cell? ⟨ab, ao + i * 3 + 1, none⟩ = some (.int .i64 (E i)) ∧ w0.cell? ⟨ab, ao + i * 3 + 2, none⟩ = some (.bool (F i)) := by
        rcases HSP.out with h | h
        · omega
        · exact h
      have KW : Hid (∀ x v, w0.cell? x = some v → wr.cell? x = some v) := fun x v h => by
        have hx := World.block_lt_of_cell? w0 x h
        have hw := HNA.out
        have h1 : w.cell? x = some v := (HBA.out.cell hx).trans h
        exact HI.out.keep.cell (HK1.out.cell h1 (by intro e; cases e)) (by omega)
      have e1 : wr.cell? ⟨ab, ao + k * 3, none⟩ = some (.int .i64 (S k)) := KW.out _ _ (hc k hlt).1
      have e2 : wr.cell? ⟨ab, ao + k * 3 + 1, none⟩ = some (.int .i64 (E k)) := KW.out _ _ (hc k hlt).2.1
      have e3 : wr.cell? ⟨ab, ao + k * 3 + 2, none⟩ = some (.bool (F k)) := KW.out _ _ (hc k hlt).2.2
      have HAB : Hid (ab ≠ w.heap.size) := by
        have hx := World.block_lt_of_cell? w0 _ (hc k hlt).1
        have hw := HNA.out
        unfold Hid; dsimp only at hx; omega
      obtain ⟨R, bR, hRs, hR⟩ := HI.out.row
      have HBR := Hid.mk' bR
      have HRS := Hid.mk' hRs
      have HR := Hid.mk' hR
      have HLB := Hid.mk' bR.lt
      obtain ⟨u, hu⟩ : ∃ u, R[k]? = some u := ⟨_, Array.getElem?_eq_getElem (by omega)⟩
      have f1 : wr.cell? ⟨w.heap.size, k, none⟩ = some u := (bR.cell k).trans hu
      have f2 : wr.frozen? ⟨w.heap.size, k, none⟩ = false := bR.frozen k
      have f3 : ∀ o, (wr.alloc o).cell? ⟨w.heap.size, k, none⟩ = some u := fun o => (Keep.alloc wr o).cell f1 id
      have f4 : ∀ o, (wr.alloc o).frozen? ⟨w.heap.size, k, none⟩ = false := fun o => ((Keep.alloc wr o).blk bR id).frozen k
      clear hu
      clear hc bR hRs hR
      generalize hx : S k = x at *
      generalize hy : E k = y at *
      generalize hz : F k = z at *
      have HX := Hid.mk' hx
      have HY := Hid.mk' hy
      have HZ := Hid.mk' hz
      clear hx hy hz
      have b1 : (0 : Int) ≤ (k : Int) := by omega
      have b2 : (k : Int) < (n : Int) := by omega
      have s1 : ∀ o, ((wr.alloc o).drew.cell? ⟨ab, ao + k * 3, none⟩ = some (.int .i64 x) ∧ (wr.alloc o).drew.cell? ⟨ab, ao + k * 3 + 1, none⟩ = some (.int .i64 y) ∧ (wr.alloc o).drew.cell? ⟨ab, ao + k * 3 + 2, none⟩ = some (.bool z)) := fun o => ⟨(Keep.alloc wr o).cell e1 id, (Keep.alloc wr o).cell e2 id, (Keep.alloc wr o).cell e3 id⟩
      have s2 : ∀ o v, (((wr.alloc o).setCell ⟨w.heap.size, k, none⟩ v).drew.cell? ⟨ab, ao + k * 3, none⟩ = some (.int .i64 x) ∧ ((wr.alloc o).setCell ⟨w.heap.size, k, none⟩ v).drew.cell? ⟨ab, ao + k * 3 + 1, none⟩ = some (.int .i64 y) ∧ ((wr.alloc o).setCell ⟨w.heap.size, k, none⟩ v).drew.cell? ⟨ab, ao + k * 3 + 2, none⟩ = some (.bool z)) := fun o v => ⟨(Keep.set (wr.alloc o) _ k v).cell ((Keep.alloc wr o).cell e1 id) HAB.out, (Keep.set (wr.alloc o) _ k v).cell ((Keep.alloc wr o).cell e2 id) HAB.out, (Keep.set (wr.alloc o) _ k v).cell ((Keep.alloc wr o).cell e3 id) HAB.out⟩
      have HS1 := Hid.mk' s1
      have HS2 := Hid.mk' s2
      clear s1 s2
      go_wp2_with fail
      go_region_held3 (fun w' => w'.cell? ⟨ab, ao + k * 3, none⟩ = some (.int .i64 x) ∧ w'.cell? ⟨ab, ao + k * 3 + 1, none⟩ = some (.int .i64 y) ∧ w'.cell? ⟨ab, ao + k * 3 + 2, none⟩ = some (.bool z)) (first | (with_reducible exact HS2.out _ _) | (with_reducible exact HS1.out _) | exact ⟨e1, e2, e3⟩) (fail)
      go_wp2_with fail
      go_roundw
      case rel => exact ⟨k + 1, by omega, by go_num, by rw [← HX.out, ← HY.out, ← HZ.out]; exact HI.out.step HU.out.lt hlt⟩
      case measure => simp [intOf]; omega
    · obtain rfl : k = n := by omega
      go_wp2_with fail
      refine HK.out _ _ ?_
      have hnw := HNA.out
      have hul := HU.out.lt
      have hw1 : Below w0.heap.size w0 w1 := HBA.out.trans (HK1.out.below HBA.out.size (fun k _ e => by cases e))
      have hwr : Below w0.heap.size w0 wr := hw1.trans (HI.out.keep.below hw1.size (fun k hk e => by omega))
      obtain ⟨R, bR, hRs, hR⟩ := HI.out.row
      exact law_t1b all now due fin a cp k w.heap.size w1.heap.size S E F w0 wr hn hd hd2 hn1 hn2 hwr HSP.out hul (by rw [HI.out.size]; omega) hw1.size (fun i hi => (bR.cell i).trans (hR i hi)) HI.out.sl _ _ _ _ _ _ _ _ _ _ _ _ _ _ _ _ _ _ _ _ _ _ _ _ _ _ _ _ _ _ _ _ _ _ _ _ _ _ _ _ _ _ _ _ _ _ _ _ _ _ _ _ _ _ _ _ _ _ _ _ _ _ _ _ _ _ _ _ _ _ _ _ _ _ _ _ _ _ _ _ _ _ _ _ _ _ _ _ _ _ _ _ _ _ _ _ _ _ _ _ _ _ _ _ _ _ _ _ _ _ _ _ _ _ _ _ _ _ _ _ _ _ _ _ _ _ _ _ _ _ _ _ _ _ _ _ _ _ _ _ _ _ _ _ _ _ _ _ _ _ _ _ _ _ _ _ _ _ _ _ _ _ _ _ _ _ _ _ _ _ _ _ _ _ _ _ _ _ _ _ _ _ _ _ _ _ _ _ _ _ _ _ _ _ _ _ _ _ _ _ _ _ _ _ _ _ _ _ _ _ _ _ _ _ _ _ _ _ _ _ _ _ _ _ _ _ _ _ _ _ _ _ _ _ _ _ _ _ _ _ _ _ _ _ _ _ _ _ _ _ _ _ _ _ _ _ _ _ _ _ _ _ _ _ _ _ _ _ _ _ _ _ _ _ _ _ _ _ _ _ _ _ _ _ _ _ _ _ _ _ _ _ _ _ _ _ _ _ _ _ _ _ _ _ _ _ _ _ _ _ _ _ _ _ _ _ _ _ _ _ _ _ _ _ _ _ _ _ _ _ _ _ _ _ _ _ _ _ _ _ _ _ _ _ _ _ _ _ _ _ _ _ _ _ _ _ _ _ _ _ _ _ _ _ _ _ _ _ _ _ _ _ _ _ _ _ _ _ _ _ _ _ _ _ _ _ _ _ _ _ _ _ _ _ _ _ _ _ _ _ _ _ _ _ _ _ _ _ _ _ _ _ _ _ _ _ _ _ _ _ _ _ _ _
end Go.Proofs.Ybulkedjq
