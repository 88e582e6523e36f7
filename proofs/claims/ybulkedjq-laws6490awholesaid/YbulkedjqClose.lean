import Derived.Test.YbulkedjqPlain
namespace Go.Proofs.Ybulkedjq
open Go.RowKit

/-- The blocks that Close may turn. -/
def Tch (hb ob pb n : Nat) (k : Nat) : Prop := k = hb ∨ k = ob ∨ (pb ≤ k ∧ k < pb + n)

/-- Where the blocks lie. -/
structure Apart (hb ob pb n B : Nat) : Prop where
  lh : hb < B
  lo : ob < B
  lp : pb + n ≤ B
  ho : hb ≠ ob
  hp : ¬ (pb ≤ hb ∧ hb < pb + n)
  op : ¬ (pb ≤ ob ∧ ob < pb + n)

/-- The loop of Close, m of the open slices seen. -/
structure CInv (w3 : World) (hb ob pb n : Nat) (S E : Nat → Int) (F f : Nat → Bool) (H : Array Value) (m : Nat) (v5 : Value) (wr : World) : Prop where
  own : wr.ownsRow w3.heap.size 25 1 v5 (Cl f m).length ((Cl f m).map fun i => ptr (pb + i))
  nil : v5 = .slice none 0 0 ↔ Cl f m = []
  row : ∃ R, Blk wr ob 25 R ∧ R.size = n ∧ (∀ p, p < (Kp f m).length → R[p]? = some (ptr (pb + (Kp f m).getD p 0))) ∧ ∀ p, (Kp f m).length ≤ p → p < n → R[p]? = some (ptr (pb + p))
  sl : ∀ i, i < n → Blk wr (pb + i) 30 #[.int .i64 (S i), .int .i64 (E i), .pointer none, .bool (if i < m ∧ f i = true then false else F i)]
  hbk : Blk wr hb 37 H
  keep : Keep (Tch hb ob pb n) w3 wr

theorem CInv.drewN {w3 : World} {hb ob pb n : Nat} {S E : Nat → Int} {F f : Nat → Bool} {H : Array Value} {m : Nat} {v5 : Value} {wr : World} (h : CInv w3 hb ob pb n S E F f H m v5 wr) (q : Nat) : CInv w3 hb ob pb n S E F f H m v5 (wr.drewN q) :=
  ⟨h.own, h.nil, h.row, h.sl, h.hbk, h.keep.drewN q⟩

/-- The one cell of a block that has just been laid. -/
theorem cells_one (w : World) (B t : Nat) (v : Value) (hB : B = w.heap.size) : ∀ j u, [v][j]? = some u → (w.alloc (.cells #[v] t)).cell? ((⟨B, 0, none⟩ : Addr).add j) = some u := by
  intro j u hj
  subst hB
  cases j with
  | zero =>
    rw [Go.WideShapes.add_plain, (Blk.new w t #[v]).cell]
    simpa using hj
  | succ j => simp at hj

theorem one_oneCell (b : Nat) : ∀ u ∈ [ptr b], u.oneCell' = true := by
  intro u hu
  simp at hu
  subst hu
  rfl

section
variable {w3 : World} {hb ob pb n : Nat} {S E : Nat → Int} {F f : Nat → Bool} {H : Array Value} {m : Nat} {v5 : Value} {wr : World}

/-- What the append of a slice that is closed is told. -/
theorem CInv.own1 (h : CInv w3 hb ob pb n S E F f H m v5 wr) (A : Apart hb ob pb n w3.heap.size) (hm : m < n) (o : Obj) :
    ((wr.setCell ⟨pb + m, 3, none⟩ (.bool false)).alloc o).ownsRow w3.heap.size 25 1 v5 (Cl f m).length ((Cl f m).map fun i => ptr (pb + i)) :=
  (ownsRow_setCell_below h.own (by have := A.lp; show pb + m < _; omega) _).alloc o

theorem own_ge {w : World} {base : Nat} {e : TypeId} {v : Value} {n : Nat} {xs : List Value} (h : w.ownsRow base e 1 v n xs) {k : Nat} (hk : some k = v.ownBlock) : base ≤ k := (h.lt k hk.symm).1

theorem CInv.closed (h : CInv w3 hb ob pb n S E F f H m v5 wr) (A : Apart hb ob pb n w3.heap.size) (hm : m < n) (hf : f m = true) (o : Obj) {v' : Value} {w' : World}
    (hown : w'.ownsRow w3.heap.size 25 1 v' ((Cl f m).length + 1) ((Cl f m).map (fun i => ptr (pb + i)) ++ [ptr (pb + m)])) (hg : ((wr.setCell ⟨pb + m, 3, none⟩ (.bool false)).alloc o).grownBy w' v5.ownBlock)
    (hnil : ¬ v' = .slice none 0 0) : CInv w3 hb ob pb n S E F f H (m + 1) v' w' := by
  have hk : Keep (fun k => k = pb + m ∨ w3.heap.size ≤ k) wr w' :=
    ((((Keep.set wr (pb + m) 3 (.bool false)).mono fun k _ e => Or.inl e).trans ((Keep.alloc _ o).mono fun k _ e => e.elim)).trans ((Keep.grown hg).mono fun k _ e => Or.inr (own_ge h.own e)))
  have a1 := A.lh; have a2 := A.lo; have a3 := A.lp; have a4 := A.hp; have a5 := A.op; have a6 := A.ho
  refine ⟨?_, ?_, ?_, ?_, hk.blk h.hbk (by omega), ?_⟩
  · rw [Cl_t hf, List.length_append, List.map_append]; exact hown
  · rw [Cl_t hf]; simp [hnil]
  · obtain ⟨R, hR, hs, h1, h2⟩ := h.row
    rw [Kp_t hf]
    exact ⟨R, hk.blk hR (by omega), hs, h1, h2⟩
  · intro i hi
    by_cases e : i = m
    · subst e
      have b := ((h.sl i hi).set 3 (.bool false))
      have k2 : Keep (fun k => w3.heap.size ≤ k) (wr.setCell ⟨pb + i, 3, none⟩ (.bool false)) w' := ((Keep.alloc _ o).mono fun k _ e => e.elim).trans ((Keep.grown hg).mono fun k _ e => own_ge h.own e)
      have b2 := k2.blk b (by omega)
      simpa [hf] using b2
    · have b := hk.blk (h.sl i hi) (by omega)
      have e2 : (i < m + 1 ∧ f i = true) ↔ (i < m ∧ f i = true) := by constructor <;> (intro ⟨x, y⟩; exact ⟨by omega, y⟩)
      simp only [e2]
      exact b
  · exact h.keep.then hk fun k hk e => by unfold Tch; omega

theorem CInv.kept (h : CInv w3 hb ob pb n S E F f H m v5 wr) (A : Apart hb ob pb n w3.heap.size) (hm : m < n) (hf : f m = false) (o : Obj) :
    CInv w3 hb ob pb n S E F f H (m + 1) v5 ((wr.alloc o).setCell ⟨ob, (Kp f m).length, none⟩ (ptr (pb + m))) := by
  have hk1 : Keep (fun _ => False) wr (wr.alloc o) := Keep.alloc wr o
  have hk2 := Keep.set (wr.alloc o) ob (Kp f m).length (ptr (pb + m))
  have hk : Keep (fun k => k = ob) wr ((wr.alloc o).setCell ⟨ob, (Kp f m).length, none⟩ (ptr (pb + m))) := (hk1.mono fun _ _ e => e.elim).trans hk2
  have a1 := A.lh; have a2 := A.lo; have a3 := A.lp; have a4 := A.hp; have a5 := A.op; have a6 := A.ho
  have hlen := Cl_Kp f m
  refine ⟨?_, ?_, ?_, ?_, hk.blk h.hbk (by omega), ?_⟩
  · rw [Cl_f hf]; exact ownsRow_setCell_below (h.own.alloc o) a2 _
  · rw [Cl_f hf]; exact h.nil
  · obtain ⟨R, hR, hs, h1, h2⟩ := h.row
    refine ⟨_, (hk1.blk hR id).set _ _, by simpa using hs, fun p hp => ?_, fun p hp hpn => ?_⟩
    · rw [Kp_f hf, List.length_append] at hp
      simp only [List.length_cons, List.length_nil] at hp
      by_cases e : p = (Kp f m).length
      · subst e
        rw [Array.getElem?_setIfInBounds_self_of_lt (by omega), Kp_f hf]
        simp [List.getD]
      · rw [Array.getElem?_setIfInBounds_ne (by omega), h1 p (by omega), Kp_f hf]
        simp [List.getD, List.getElem?_append_left (show p < (Kp f m).length by omega)]
    · rw [Kp_f hf, List.length_append] at hp
      simp only [List.length_cons, List.length_nil] at hp
      rw [Array.getElem?_setIfInBounds_ne (by omega)]
      exact h2 p (by omega) hpn
  · intro i hi
    have b := hk.blk (h.sl i hi) (by omega)
    have e2 : (i < m + 1 ∧ f i = true) ↔ (i < m ∧ f i = true) := by
      constructor
      · intro ⟨x, y⟩
        refine ⟨?_, y⟩
        by_cases e : i = m
        · subst e; rw [hf] at y; cases y
        · omega
      · intro ⟨x, y⟩; exact ⟨by omega, y⟩
    simp only [e2]
    exact b
  · exact h.keep.then hk fun k hk e => by unfold Tch; omega
end

theorem Blk.setCells {b : Nat} {t : TypeId} : ∀ (vs : List Value) (o : Nat) (w : World) (cur : Array Value), Blk w b t cur → ∃ cur', Blk (w.setCells b o vs) b t cur' ∧ cur'.size = cur.size
  | [], _, _, cur, h => ⟨cur, h, rfl⟩
  | v :: r, o, w, cur, h => by
    obtain ⟨c', h', hs⟩ := Blk.setCells r (o + 1) (w.setCell ⟨b, o, none⟩ v) _ (h.set o v)
    exact ⟨c', h', by rw [hs]; simp⟩
theorem Keep.setCells {b : Nat} : ∀ (vs : List Value) (o : Nat) (w : World), Keep (· = b) w (w.setCells b o vs)
  | [], _, w => Keep.refl _ w
  | v :: r, o, w => (Keep.set w b o v).trans (Keep.setCells r (o + 1) _)

/-- 'clear' of what lies behind the first k cells of a row. -/
theorem clear_row (wr : World) (ob n k : Nat) (R : Array Value) (hR : Blk wr ob 25 R) (hs : R.size = n) (hk : k ≤ n) : ∃ wc R',
    (k = n → ∀ ty a c, (Builtin.clear_ #[24] ty #[.slice a 0 c]).run Yba.prog wr = .ok (.tuple #[]) wc) ∧ (k < n → ∀ ty c, (Builtin.clear_ #[24] ty #[.slice (some ⟨ob, k, none⟩) (n - k) c]).run Yba.prog wr = .ok (.tuple #[]) wc) ∧
    Blk wc ob 25 R' ∧ R'.size = n ∧ (∀ p, p < k → R'[p]? = R[p]?) ∧ (∀ p, k ≤ p → p < n → R'[p]? = some (.pointer none)) ∧ Keep (· = ob) wr wc := by
  by_cases h : k = n
  · subst h
    exact ⟨wr, R, fun _ ty a c => run_clear_none Yba.prog wr 24 25 ty Yba.underlying24 a c, fun h => absurd h (Nat.lt_irrefl _), hR, hs, fun _ _ => rfl, fun p h1 h2 => absurd h2 (by omega), Keep.refl _ _⟩
  · obtain ⟨R', hR', hs'⟩ := hR.setCells (List.replicate (n - k) (.pointer none)) k
    have hc : ∀ j, j < n - k → (wr.cell? ⟨ob, k + j, none⟩).isSome = true := fun j hj => by rw [hR.cell]; simp; omega
    refine ⟨_, R', fun e => absurd e h, fun _ ty c => Lib.run_clear_slice wr 24 25 ty _ Yba.underlying24 Yba.zeroValue25 rfl rfl ob k (n - k) c (by omega) hc (fun j _ => hR.frozen _), hR', by omega, fun p hp => ?_, fun p hp hpn => ?_, Keep.setCells _ _ _⟩
    · rw [← hR'.cell, ← hR.cell, World.cell?_setCells_out]
      intro _ _
      exact Or.inl hp
    · have := World.cell?_setCells_in ob (List.replicate (n - k) (.pointer none)) k wr (by simpa using hc) (p - k) (by simp; omega)
      rw [show k + (p - k) = p by omega, hR'.cell] at this
      rw [this]
      simp

/-- What Close leaves. -/
structure CPost (w : World) (hb ob pb n : Nat) (S E : Nat → Int) (F f : Nat → Bool) (H' : Array Value) (v : Value) (w' : World) : Prop where
  keep : Keep (Tch hb ob pb n) w w'
  hbk : Blk w' hb 37 H'
  row1 : ∀ p, p < (Kp f n).length → w'.cell? ⟨ob, p, none⟩ = some (ptr (pb + (Kp f n).getD p 0))
  row2 : ∀ p, (Kp f n).length ≤ p → p < n → w'.cell? ⟨ob, p, none⟩ = some (.pointer none)
  sl : ∀ i, i < n → Blk w' (pb + i) 30 #[.int .i64 (S i), .int .i64 (E i), .pointer none, .bool (if f i = true then false else F i)]
  res : (Cl f n = [] ∧ v = .slice none 0 0) ∨ ∃ (g cap : Nat) (c' : List Nat), v = .slice (some ⟨g, 0, none⟩) (Cl f n).length cap ∧ Cl f n ≠ [] ∧ w.heap.size ≤ g ∧ c'.Perm (Cl f n) ∧
    (∀ i j, i < j → j < c'.length → S (c'.getD i 0) ≤ S (c'.getD j 0)) ∧ ∀ j, j < c'.length → w'.cell? ⟨g, j, none⟩ = some (ptr (pb + c'.getD j 0))

section
variable {w w3 : World} {hb ob pb n : Nat} {S E : Nat → Int} {F f : Nat → Bool} {H R' : Array Value} {v5 : Value} {wr wc : World}

/-- Behind the loop, the clear and the store: all but what is handed back. -/
theorem CInv.done (h : CInv w3 hb ob pb n S E F f H n v5 wr) (A : Apart hb ob pb n w3.heap.size) (K3 : Keep (Tch hb ob pb n) w w3) (hR' : Blk wc ob 25 R') (hK : Keep (· = ob) wr wc) (u : Value) :
    Keep (Tch hb ob pb n) w (wc.setCell ⟨hb, 12, none⟩ u) ∧ Blk (wc.setCell ⟨hb, 12, none⟩ u) hb 37 (H.setIfInBounds 12 u) ∧ Blk (wc.setCell ⟨hb, 12, none⟩ u) ob 25 R' ∧
    (∀ i, i < n → Blk (wc.setCell ⟨hb, 12, none⟩ u) (pb + i) 30 #[.int .i64 (S i), .int .i64 (E i), .pointer none, .bool (if f i = true then false else F i)]) ∧
    (wc.setCell ⟨hb, 12, none⟩ u).ownsRow w3.heap.size 25 1 v5 (Cl f n).length ((Cl f n).map fun i => ptr (pb + i)) := by
  have a1 := A.lh; have a2 := A.lo; have a3 := A.lp; have a4 := A.hp; have a5 := A.op; have a6 := A.ho
  have k2 := Keep.set wc hb 12 u
  have hk : Keep (fun k => k = ob ∨ k = hb) wr (wc.setCell ⟨hb, 12, none⟩ u) := (hK.mono fun _ _ e => Or.inl e).trans (k2.mono fun _ _ e => Or.inr e)
  refine ⟨?_, (hK.blk h.hbk (by omega)).set 12 u, k2.blk hR' (by omega), fun i hi => ?_, ?_⟩
  · exact (K3.then h.keep fun _ _ e => e).then hk fun k _ e => by unfold Tch; omega
  · have b := hk.blk (h.sl i hi) (by omega)
    simpa [hi] using b
  · obtain ⟨hl, ho⟩ := h.own
    refine ⟨hl, ?_⟩
    rcases ho with ho | ⟨g, cap, cur, hv, hg, hh, r⟩
    · exact Or.inl ho
    · refine Or.inr ⟨g, cap, cur, hv, hg, ?_, r⟩
      exact hk.blk (show Blk wr g 25 cur from hh) (by omega)

/-- The sort at the end of Close. -/
theorem close_sort {H' : Array Value} {w5 : World} (hn : n ≤ 4096) (A : Apart hb ob pb n w.heap.size) (k5 : Keep (Tch hb ob pb n) w w5) (bH : Blk w5 hb 37 H') (bO : Blk w5 ob 25 R') (h1 : ∀ p, p < (Kp f n).length → R'[p]? = some (ptr (pb + (Kp f n).getD p 0))) (h2 : ∀ p, (Kp f n).length ≤ p → p < n → R'[p]? = some (.pointer none))
    (bS : ∀ i, i < n → Blk w5 (pb + i) 30 #[.int .i64 (S i), .int .i64 (E i), .pointer none, .bool (if f i = true then false else F i)]) (ho : w5.ownsRow w.heap.size 25 1 v5 (Cl f n).length ((Cl f n).map fun i => ptr (pb + i))) (hnil : v5 = .slice none 0 0 ↔ Cl f n = []) :
    Calls Yba.prog 6 #[v5, .func (.func 7) #[] #[]] w5 fun e w' => e = .returned (.tuple #[]) ∧ CPost w hb ob pb n S E F f H' v5 w' := by
  have a1 := A.lh; have a2 := A.lo; have a3 := A.lp
  by_cases hc : Cl f n = []
  · obtain rfl := hnil.2 hc
    refine (sort_none _ w5).mono ?_
    rintro e w' ⟨rfl, rfl⟩
    exact ⟨rfl, k5, bH, fun p hp => (bO.cell p).trans (h1 p hp), fun p hp hpn => (bO.cell p).trans (h2 p hp hpn), bS, Or.inl ⟨hc, rfl⟩⟩
  · have hlen := Cl_Kp f n
    obtain ⟨hl, hor⟩ := ho
    rcases hor with ⟨hv, _⟩ | ⟨g, cap, cur, hv, hg, hh, hcap, _, hsz, htake⟩
    · exact absurd (hnil.1 hv) hc
    · subst hv
      have hn0 : 0 < n := by
        rcases Nat.eq_zero_or_pos n with e | e
        · subst e; exact absurd rfl hc
        · exact e
      have bG : Blk w5 g 25 cur := hh
      refine (sort_some pb n S g cap (Cl f n) w5 hn0 (fun i hi => (mem_Cl.1 hi).1) (fun i hi => (bS i hi).cell 0) (fun j hj => ⟨?_, bG.frozen j⟩) (fun i hi => by omega) bG.lt (by omega)).mono ?_
      · rw [bG.cell]
        have e : cur.toList[j]? = ((Cl f n).map fun i => ptr (pb + i))[j]? := by
          rw [← htake, List.getElem?_take_of_lt (by omega)]
        rw [Array.getElem?_toList] at e
        rw [e, List.getElem?_map]
        simp [List.getD, hj]
      · rintro e w' ⟨rfl, c', hp, hsrt, hcell, hk⟩
        refine ⟨rfl, k5.then hk fun k _ e => ?_, hk.blk bH ?_, fun p hp => ((hk.blk bO ?_).cell p).trans (h1 p hp), fun p hp hpn => ((hk.blk bO ?_).cell p).trans (h2 p hp hpn), fun i hi => hk.blk (bS i hi) ?_, Or.inr ⟨g, cap, c', rfl, hc, hg, hp, hsrt, hcell⟩⟩ <;> omega
end
end Go.Proofs.Ybulkedjq
