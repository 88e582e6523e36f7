import Derived.Test.YbulkedcqDoorAddr
namespace Go.Proofs.YbulkedcqDoor
open Go.RowKit
attribute [local go_sem ↓] Go.wp_at_zero Go.wp_at_succ

theorem ne_off {b i j : Nat} (h : i ≠ j) : (⟨b, j, none⟩ : Addr) ≠ ⟨b, i, none⟩ := fun e => h (congrArg Addr.off e).symm
theorem ne_block {b c i j : Nat} (h : b ≠ c) : (⟨b, j, none⟩ : Addr) ≠ ⟨c, i, none⟩ := fun e => h (congrArg Addr.block e)

def upd (f : Nat → Value) (j : Nat) (v : Value) : Nat → Value := fun i => if i = j then v else f i

/-- Of the world 'w' two blocks alone may have turned: 'cb' (34 cells, they hold 'fc') and 'hb' (16 cells, they hold 'fh'). -/
structure Two (w : World) (cb hb : Nat) (fc fh : Nat → Value) (w' : World) : Prop where
  cur : ∀ i, i < 34 → w'.cell? ⟨cb, i, none⟩ = some (fc i)
  hd : ∀ i, i < 16 → w'.cell? ⟨hb, i, none⟩ = some (fh i)
  froz : ∀ a : Addr, a.block < w.heap.size → w'.frozen? a = w.frozen? a
  os : w'.os = w.os
  tape : w'.tape = w.tape
  output : w'.output = w.output
  size : w.heap.size ≤ w'.heap.size
  block : ∀ k, k < w.heap.size → k ≠ cb → k ≠ hb → w'.heap[k]? = w.heap[k]?

theorem Two.drewN {w w' : World} {cb hb : Nat} {fc fh : Nat → Value} (h : Two w cb hb fc fh w') (q : Nat) : Two w cb hb fc fh (w'.drewN q) :=
  ⟨h.cur, h.hd, h.froz, h.os, h.tape, h.output, h.size, h.block⟩

theorem Two.setCur {w w' : World} {cb hb : Nat} {fc fh : Nat → Value} (h : Two w cb hb fc fh w') (hne : cb ≠ hb) (j : Nat) (hj : j < 34) (v : Value) : Two w cb hb (upd fc j v) fh (w'.setCell ⟨cb, j, none⟩ v) := by
  refine ⟨fun i hi => ?_, fun i hi => ?_, fun a ha => ?_, h.os, h.tape, h.output, by simp [World.setCell, h.size], fun k h0 h1 h2 => ?_⟩
  · by_cases e : i = j
    · subst e; rw [World.cell?_setCell_same _ _ _ (h.cur i hi)]; simp [upd]
    · rw [World.cell?_setCell_other _ _ _ _ (ne_off e), h.cur i hi]; simp [upd, e]
  · rw [World.cell?_setCell_other _ _ _ _ (ne_block hne), h.hd i hi]
  · rw [World.frozen?_setCell]; exact h.froz a ha
  · rw [Below.heap_setCell _ _ _ _ h1]; exact h.block k h0 h1 h2

theorem Two.setHd {w w' : World} {cb hb : Nat} {fc fh : Nat → Value} (h : Two w cb hb fc fh w') (hne : cb ≠ hb) (j : Nat) (hj : j < 16) (v : Value) : Two w cb hb fc (upd fh j v) (w'.setCell ⟨hb, j, none⟩ v) := by
  refine ⟨fun i hi => ?_, fun i hi => ?_, fun a ha => ?_, h.os, h.tape, h.output, by simp [World.setCell, h.size], fun k h0 h1 h2 => ?_⟩
  · rw [World.cell?_setCell_other _ _ _ _ (ne_block hne.symm), h.cur i hi]
  · by_cases e : i = j
    · subst e; rw [World.cell?_setCell_same _ _ _ (h.hd i hi)]; simp [upd]
    · rw [World.cell?_setCell_other _ _ _ _ (ne_off e), h.hd i hi]; simp [upd, e]
  · rw [World.frozen?_setCell]; exact h.froz a ha
  · rw [Below.heap_setCell _ _ _ _ h2]; exact h.block k h0 h1 h2

theorem Two.alloc {w w' : World} {cb hb : Nat} {fc fh : Nat → Value} (h : Two w cb hb fc fh w') (o : Obj) : Two w cb hb fc fh (w'.alloc o) := by
  have b : Below w'.heap.size w' (w'.alloc o) := (Below.refl _ _).alloc (Nat.le_refl _) _
  have hcb : cb < w'.heap.size := World.block_lt_of_cell? w' ⟨cb, 0, none⟩ (h.cur 0 (by omega))
  have hhb : hb < w'.heap.size := World.block_lt_of_cell? w' ⟨hb, 0, none⟩ (h.hd 0 (by omega))
  have hs := h.size
  exact ⟨fun i hi => (b.cell (by exact hcb)).trans (h.cur i hi), fun i hi => (b.cell (by exact hhb)).trans (h.hd i hi), fun a ha => (b.frozen (by omega)).trans (h.froz a ha), h.os, h.tape, h.output, Nat.le_trans h.size b.size,
    fun k h0 h1 h2 => (b.block k (by omega)).trans (h.block k h0 h1 h2)⟩

/-- Two stretches, one behind the other. -/
theorem Two.trans {w w1 w2 : World} {cb hb : Nat} {fc fh gc gh : Nat → Value} (h : Two w cb hb fc fh w1) (g : Two w1 cb hb gc gh w2) : Two w cb hb gc gh w2 :=
  ⟨g.cur, g.hd, fun a ha => (g.froz a (Nat.lt_of_lt_of_le ha h.size)).trans (h.froz a ha), g.os.trans h.os, g.tape.trans h.tape, g.output.trans h.output, Nat.le_trans h.size g.size,
    fun k h0 h1 h2 => (g.block k (Nat.lt_of_lt_of_le h0 h.size) h1 h2).trans (h.block k h0 h1 h2)⟩

theorem Two.set (w : World) (cb hb : Nat) (fc fh : Nat → Value) (h1 : ∀ i, i < 34 → w.cell? ⟨cb, i, none⟩ = some (fc i)) (h2 : ∀ i, i < 16 → w.cell? ⟨hb, i, none⟩ = some (fh i)) : Two w cb hb fc fh w :=
  ⟨h1, h2, fun _ _ => rfl, rfl, rfl, rfl, Nat.le_refl _, fun _ _ _ _ => rfl⟩

theorem upd_same (f : Nat → Value) (j : Nat) (v : Value) : upd f j v j = v := by simp [upd]
theorem upd_other {f : Nat → Value} {j : Nat} {v : Value} {i : Nat} (h : i ≠ j) : upd f j v i = f i := by simp [upd, h]

set_option maxHeartbeats 4000000 in
set_option maxRecDepth 100000 in
theorem enc_any (cb hb : Nat) (ks hs : List Int) (fc : Nat → Value) (w : World) (hne : cb ≠ hb) (hks : AllB ks) (hhs : AllB hs)
    (hc : ∀ i, i < 34 → w.cell? ⟨cb, i, none⟩ = some (fc i)) (hk : ∀ i, i < 16 → fc i = .int .u8 (ks.getD i 0)) (hn : fc 16 = .int .i64 0) (hd : ∀ i, i < 16 → w.cell? ⟨hb, i, none⟩ = some (.int .u8 (hs.getD i 0)))
    (hfc : ∀ i, w.frozen? ⟨cb, i, none⟩ = false) (hfh : ∀ i, i < 16 → w.frozen? ⟨hb, i, none⟩ = false) :
    Calls Ybad.prog 33 #[.pointer (some ⟨cb, 0, none⟩), .slice (some ⟨hb, 0, none⟩) 16 16, .slice (some ⟨hb, 0, none⟩) 16 16] w fun e w' => e = .returned (.tuple #[]) ∧
      ∃ fc' fh', Two w cb hb fc' fh' w' ∧ (∀ i, i < 16 → fc' i = .int .u8 (ks.getD i 0)) ∧ fc' 16 = .int .i64 1 ∧ fc' 17 = fc 17 ∧ (∀ i, i < 16 → fc' (18 + i) = .int .u8 (hs.getD i 0)) ∧
        (∀ i, i < 16 → fh' i = .int .u8 (bits .xor .u8 (hs.getD i 0) (ks.getD i 0))) := by
  have h0 : Two w cb hb fc (fun i => .int .u8 (hs.getD i 0)) w := Two.set w cb hb _ _ hc hd
  have HCB : Hid (cb < w.heap.size) := World.block_lt_of_cell? w ⟨cb, 0, none⟩ (hc 0 (by omega))
  have HHB : Hid (hb < w.heap.size) := World.block_lt_of_cell? w ⟨hb, 0, none⟩ (hd 0 (by omega))
  have c16 := hc 16 (by omega)
  rw [hn] at c16
  have f16 := hfc 16
  have T1 : Hid (Two w cb hb (upd fc 16 (.int .i64 1)) (fun i => .int .u8 (hs.getD i 0)) (w.setCell ⟨cb, 16, none⟩ (.int .i64 1))) := h0.setCur hne 16 (by omega) _
  have HK : Hid (∀ i, i < 16 → fc i = .int .u8 (ks.getD i 0)) := hk
  have HFC : Hid (∀ i, w.frozen? ⟨cb, i, none⟩ = false) := hfc
  have HFH : Hid (∀ i, i < 16 → w.frozen? ⟨hb, i, none⟩ = false) := hfh
  have HNE : Hid (cb ≠ hb) := hne
  have HN : Hid (fc 16 = .int .i64 0) := hn
  clear h0 hc hd hk hfc hfh hn
  go_enter Ybad.func33, Ybad.ntmps33
  go_wp2
  go_loopw [6] (fun j wr => ∃ (k : Nat) (f : Nat → Value), k ≤ 16 ∧ j = .int .i64 k ∧ Two w cb hb f (fun i => .int .u8 (hs.getD i 0)) wr ∧ (∀ i, i < 16 → f i = .int .u8 (ks.getD i 0)) ∧ f 16 = .int .i64 1 ∧ f 17 = fc 17 ∧ (∀ i, i < k → f (18 + i) = .int .u8 (hs.getD i 0))) (fun j _ => 16 - (intOf j).toNat)
  case atStart =>
    refine ⟨0, upd fc 16 (.int .i64 1), by omega, rfl, T1.out, fun i hi => ?_, upd_same _ _ _, upd_other (by omega), fun i hi => by omega⟩
    rw [upd_other (by omega)]; exact HK.out i hi
  case round =>
    obtain ⟨k, f, hk, rfl, hT, hf1, hf2, hf3, hf4⟩ := hrel
    have HT : Hid (Two w cb hb f (fun i => .int .u8 (hs.getD i 0)) wr) := hT
    have HF : Hid ((∀ i, i < 16 → f i = .int .u8 (ks.getD i 0)) ∧ f 16 = .int .i64 1 ∧ f 17 = fc 17 ∧ (∀ i, i < k → f (18 + i) = .int .u8 (hs.getD i 0))) := ⟨hf1, hf2, hf3, hf4⟩
    clear hT hf1 hf2 hf3 hf4
    by_cases hlt : k < 16
    · have hck := HT.out.hd k hlt
      have hcs := HT.out.cur (18 + k) (by omega)
      have hfs : wr.frozen? ⟨cb, 18 + k, none⟩ = false := (HT.out.froz _ HCB.out).trans (HFC.out _)
      have b1 : (0 : Int) ≤ (k : Int) := by omega
      have b2 : (k : Int) < 16 := by omega
      have hx := hhs k
      generalize hxx : hs.getD k 0 = x at hck hx
      have HX : Hid (hs.getD k 0 = x) := hxx
      clear hxx
      go_wp2
      go_region_held3 (fun w' => w'.cell? ⟨hb, k, none⟩ = some (.int .u8 x)) (go_keep) (fail)
      go_wp2
      go_roundw
      case rel =>
        refine ⟨k + 1, upd f (18 + k) (.int .u8 x), by omega, by go_num, (HT.out.setCur HNE.out (18 + k) (by omega) _).drewN 1, fun i hi => ?_, ?_, ?_, fun i hi => ?_⟩
        · rw [upd_other (by omega)]; exact HF.out.1 i hi
        · rw [upd_other (by omega)]; exact HF.out.2.1
        · rw [upd_other (by omega)]; exact HF.out.2.2.1
        · by_cases e : i = k
          · subst e; rw [upd_same, HX.out]
          · rw [upd_other (by omega)]; exact HF.out.2.2.2 i (by omega)
      case measure => simp [intOf]; omega
    · obtain ⟨hf1, hf2, hf3, hf4⟩ := HF.out
      have hf4' : ∀ i, i < 16 → f (18 + i) = .int .u8 (hs.getD i 0) := fun i hi => hf4 i (by omega)
      have HF2 : Hid ((∀ i, i < 16 → f i = .int .u8 (ks.getD i 0)) ∧ f 16 = .int .i64 1 ∧ f 17 = fc 17 ∧ (∀ i, i < 16 → f (18 + i) = .int .u8 (hs.getD i 0))) := ⟨hf1, hf2, hf3, hf4'⟩
      clear hf1 hf2 hf3 hf4 hf4' HF
      go_wp2
      go_loopw [7] (fun j wr => ∃ (k : Nat) (g : Nat → Value), k ≤ 16 ∧ j = .int .i64 k ∧ Two w cb hb f g wr ∧ (∀ i, i < k → g i = .int .u8 (bits .xor .u8 (hs.getD i 0) (ks.getD i 0)))) (fun j _ => 16 - (intOf j).toNat)
      case atStart => exact ⟨0, _, by omega, rfl, HT.out, fun i hi => by omega⟩
      case round =>
        obtain ⟨m, g, hm, rfl, hT2, hg⟩ := hrel
        have HT2 : Hid (Two w cb hb f g wr) := hT2
        have HG : Hid (∀ i, i < m → g i = .int .u8 (bits .xor .u8 (hs.getD i 0) (ks.getD i 0))) := hg
        clear hT2 hg
        by_cases hlm : m < 16
        · have c1 := HT2.out.cur (18 + m) (by omega)
          rw [HF2.out.2.2.2 m hlm] at c1
          have c2 := HT2.out.cur m (by omega)
          rw [HF2.out.1 m hlm] at c2
          have c3 := HT2.out.hd m hlm
          have hfs : wr.frozen? ⟨hb, m, none⟩ = false := (HT2.out.froz _ HHB.out).trans (HFH.out _ hlm)
          have b1 : (0 : Int) ≤ (m : Int) := by omega
          have b2 : (m : Int) < 16 := by omega
          have hx := hhs m
          have hy := hks m
          generalize hxx : hs.getD m 0 = x at c1 hx
          generalize hyy : ks.getD m 0 = y at c2 hy
          have HX : Hid (hs.getD m 0 = x) := hxx
          have HY : Hid (ks.getD m 0 = y) := hyy
          clear hxx hyy
          have hne' : ¬ hb = cb := fun e => hne e.symm
          go_wp2
          go_region_held3 (fun w' => w'.cell? ⟨cb, 18 + m, none⟩ = some (.int .u8 x) ∧ w'.cell? ⟨cb, m, none⟩ = some (.int .u8 y)) (go_keep) (fail)
          go_wp2
          go_roundw
          case rel =>
            refine ⟨m + 1, upd g m (.int .u8 (bits .xor .u8 x y)), by omega, by go_num, (HT2.out.setHd HNE.out m hlm _).drewN 1, fun i hi => ?_⟩
            by_cases e : i = m
            · subst e; rw [upd_same, HX.out, HY.out]
            · rw [upd_other e]; exact HG.out i (by omega)
          case measure => simp [intOf]; omega
        · go_wp2
          go_end0
          exact ⟨rfl, f, g, HT2.out, HF2.out.1, HF2.out.2.1, HF2.out.2.2.1, HF2.out.2.2.2, fun i hi => HG.out i (by omega)⟩
end Go.Proofs.YbulkedcqDoor
