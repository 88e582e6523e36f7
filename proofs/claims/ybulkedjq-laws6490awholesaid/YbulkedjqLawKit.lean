import Derived.Test.YbulkedjqCloseW
import Derived.LaidEqlPtr
namespace Go.Proofs.Ybulkedjq
open Go.RowKit

def headR : Code → Option Nat
  | .region n _ _ => some n
  | .seq a _ => headR a
  | .block _ c => headR c
  | _ => none
def fromR (n : Nat) : Code → Option Code
  | .seq a b => if headR a == some n then some (.seq a b) else fromR n b
  | .block _ c => fromR n c
  | c => if headR c == some n then some c else none

theorem below_drewN {B : Nat} {w w' : World} (h : Below B w w') (q : Nat) : Below B w (w'.drewN q) := ⟨h.os, h.tape, h.output, h.size, h.block⟩

theorem info4 : (Yba.prog.info? 4).map (fun i => (i.zero, i.size, i.bytes)) = some (some (.bool false), 1, 1) := by kernel_rfl

/-- What Close has handed back. -/
def Got (f : Nat → Bool) (n pb : Nat) (S : Nat → Int) (w : World) (v : Value) : Prop :=
  (Cl f n = [] ∧ v = .slice none 0 0) ∨ ∃ (g cap : Nat) (c' : List Nat), v = .slice (some ⟨g, 0, none⟩) (Cl f n).length cap ∧ Cl f n ≠ [] ∧ c'.Perm (Cl f n) ∧
    (∀ i j, i < j → j < c'.length → S (c'.getD i 0) ≤ S (c'.getD j 0)) ∧ ∀ j, j < c'.length → w.cell? ⟨g, j, none⟩ = some (ptr (pb + c'.getD j 0))

theorem made_blk {w : World} {base e n : Nat} {b : Nat} {z : Value} (h : w.ownsRow base e 1 (.slice (some ⟨b, 0, none⟩) n n) n (madeCells #[z] n).toList) : Blk w b e (Array.replicate n z) := by
  obtain ⟨hl, h2⟩ := h
  rcases h2 with ⟨hv, _⟩ | ⟨g, cap, cur, hv, hg, hh, hnc, hm, hs, ht⟩
  · cases hv
  · cases hv
    have e1 : cur = Array.replicate n z := by
      apply Array.ext'
      rw [List.take_of_length_le (by simp; omega)] at ht
      rw [ht, toList_madeCells_one]
      simp
    rw [e1] at hh
    exact hh

theorem info30 : ∃ j, Yba.prog.info? 30 = some j ∧ j.size = 4 := by
  have h : (Yba.prog.info? 30).map (fun i => i.size) = some 4 := by kernel_rfl
  obtain ⟨j, hj, hs⟩ := Option.map_eq_some_iff.1 h
  exact ⟨j, hj, hs⟩

theorem ptr_eql (a : Addr) (w : World) : (binOp .eql 25 (.pointer (some a)) (.pointer (some a))).run Yba.prog w = .ok (.bool true) w := by
  obtain ⟨j, hj, _⟩ := info30
  exact run_eql_ptr_same w a Yba.underlying25 hj

theorem ptr_neq (a : Addr) (w : World) : (binOp .neq 25 (.pointer (some a)) (.pointer (some a))).run Yba.prog w = .ok (.bool false) w := by
  obtain ⟨j, hj, _⟩ := info30
  have h : ∀ d : Nat, (Op.equalIn (d + 1) 25 (.pointer (some a)) (.pointer (some a))).run Yba.prog w = .ok true w := fun d => by
    simp [Op.equalIn, run_underlying Yba.underlying25, sizeOf, typeInfo, hj, run_sameAddr_same]
  simp only [binOp]
  simp [Op.equal, Op.maxDepth, h 9999]

theorem ptr_other {a b : Nat} {ca cb : Array Value} {w : World} (h : a ≠ b) (ha : Blk w a 30 ca) (hb : Blk w b 30 cb) (q : Nat) :
    (binOp .eql 25 (.pointer (some ⟨a, 0, none⟩)) (.pointer (some ⟨b, 0, none⟩))).run Yba.prog (w.drewN q) = .ok (.bool false) (w.drewN q) := by
  obtain ⟨j, hj, hs⟩ := info30
  exact run_eql_ptr_other (w.drewN q) Yba.underlying25 hj (by omega) (fun e => h (congrArg Addr.block e)) ha hb

/-- The slices, whatever their flags. -/
def Sls (w : World) (n pb : Nat) (S E : Nat → Int) (F : Nat → Bool) : Prop := ∀ i, i < n → Blk w (pb + i) 30 #[.int .i64 (S i), .int .i64 (E i), .pointer none, .bool (F i)]

theorem take_mem_succ (l : List Nat) (j i : Nat) (hj : j < l.length) : i ∈ l.take (j + 1) ↔ i ∈ l.take j ∨ i = l.getD j 0 := by
  have e : l.take (j + 1) = l.take j ++ [l.getD j 0] := by
    rw [List.take_add_one, List.getElem?_eq_getElem hj]
    simp [List.getD, hj]
  rw [e]
  simp

theorem nodup_Cl (f : Nat → Bool) (n : Nat) : (Cl f n).Nodup := List.Nodup.sublist List.filter_sublist List.nodup_range

theorem not_mem_take {l : List Nat} (h : l.Nodup) {j : Nat} (hj : j < l.length) : l.getD j 0 ∉ l.take j := by
  intro hm
  obtain ⟨m, hm1, hm2⟩ := List.getElem_of_mem hm
  rw [List.getElem_take] at hm2
  have hmj : m < j := by simp at hm1; omega
  have e : l.getD j 0 = l[j] := by simp [List.getD, hj]
  rw [e] at hm2
  exact List.pairwise_iff_getElem.1 h m j (by omega) hj hmj hm2

/-- The spans that the law is handed. -/
def Spn (w : World) (a : Option Addr) (n : Nat) (S E : Nat → Int) (F : Nat → Bool) : Prop :=
  n = 0 ∨ ∃ ab ao, a = some ⟨ab, ao, none⟩ ∧ ∀ i, i < n → w.cell? ⟨ab, ao + i * 3, none⟩ = some (.int .i64 (S i)) ∧ w.cell? ⟨ab, ao + i * 3 + 1, none⟩ = some (.int .i64 (E i)) ∧ w.cell? ⟨ab, ao + i * 3 + 2, none⟩ = some (.bool (F i))

theorem Spn.later {w w' : World} {a : Option Addr} {n : Nat} {S E : Nat → Int} {F : Nat → Bool} (h : Spn w a n S E F) (k : ∀ x v, w.cell? x = some v → w'.cell? x = some v) : Spn w' a n S E F := by
  rcases h with h | ⟨ab, ao, ha, hc⟩
  · exact Or.inl h
  · exact Or.inr ⟨ab, ao, ha, fun i hi => ⟨k _ _ (hc i hi).1, k _ _ (hc i hi).2.1, k _ _ (hc i hi).2.2⟩⟩
end Go.Proofs.Ybulkedjq
