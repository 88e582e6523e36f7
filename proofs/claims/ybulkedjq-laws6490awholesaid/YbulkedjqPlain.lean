import Derived.Test.YbulkedjqSort
import Derived.Lib.SliceRun
namespace Go.Proofs.Ybulkedjq
open Go.RowKit

/-- The places below m that f takes, in order. -/
def Cl (f : Nat → Bool) (m : Nat) : List Nat := (List.range m).filter f
/-- Those that it leaves. -/
def Kp (f : Nat → Bool) (m : Nat) : List Nat := (List.range m).filter fun i => !f i

theorem Cl_zero (f : Nat → Bool) : Cl f 0 = [] := rfl
theorem Kp_zero (f : Nat → Bool) : Kp f 0 = [] := rfl
theorem Cl_t {f : Nat → Bool} {m : Nat} (h : f m = true) : Cl f (m + 1) = Cl f m ++ [m] := by simp [Cl, List.range_succ, h]
theorem Cl_f {f : Nat → Bool} {m : Nat} (h : f m = false) : Cl f (m + 1) = Cl f m := by simp [Cl, List.range_succ, h]
theorem Kp_t {f : Nat → Bool} {m : Nat} (h : f m = true) : Kp f (m + 1) = Kp f m := by simp [Kp, List.range_succ, h]
theorem Kp_f {f : Nat → Bool} {m : Nat} (h : f m = false) : Kp f (m + 1) = Kp f m ++ [m] := by simp [Kp, List.range_succ, h]
theorem Cl_Kp (f : Nat → Bool) (m : Nat) : (Cl f m).length + (Kp f m).length = m := by
  induction m with
  | zero => rfl
  | succ m ih =>
    cases h : f m
    · rw [Cl_f h, Kp_f h, List.length_append]; simp; omega
    · rw [Cl_t h, Kp_t h, List.length_append]; simp; omega
theorem mem_Cl {f : Nat → Bool} {m i : Nat} : i ∈ Cl f m ↔ i < m ∧ f i = true := by simp [Cl]
theorem mem_Kp {f : Nat → Bool} {m i : Nat} : i ∈ Kp f m ↔ i < m ∧ f i = false := by simp [Kp]

/-- An append of one within the capacity: what it makes, exactly. -/
theorem wpList_append_room1 {P : Program} (w : World) {ops : Array Oper} {rest : List Oper} {o : Oper} {a : Act} {Q : Exit → Act → World → Prop}
    (hg : o.guard = none) (s x : Operand) (t : TypeId) (hop : o.op = Op.call { callee := Callee.builtin Builtin.append, args := #[s, x], argTypes := #[t, t] })
    (e : TypeId) (i : TypeInfo) (h1 : P.underlying t = some (.slice e)) (h2 : P.info? e = some i) (h4 : i.size = 1)
    (b off n cap : Nat) (hs : a.eval s = .slice (some ⟨b, off, none⟩) n cap) (ad : Addr) (c : Nat) (u : Value) (hx : a.eval x = .slice (some ad) 1 c) (hc : w.cell? ad = some u) (h1c : u.oneCell' = true) (b1 : n + 1 ≤ cap)
    (hsp : (w.cell? ⟨b, off + n, none⟩).isSome = true) (hf : w.frozen? ⟨b, off + n, none⟩ = false)
    (hK : wpList P ops Q rest (a.put o.dst (.slice (some ⟨b, off, none⟩) (n + 1) cap)) (w.setCell ⟨b, off + n, none⟩ u)) :
    wpList P ops Q (o :: rest) a w := by
  refine wpList_plain hg fun K hK' => ?_
  have hspot : ad.spot = none := World.cell?_spot hc
  have hrun := run_append_room_cells (P := P) w t o.type e i h1 h2 b off n cap ad 1 c [u] (by simp [h4]) (by
    intro j v hj
    cases j with
    | zero => simp at hj; subst hj; obtain ⟨bb, oo, ss⟩ := ad; simp at hspot; subst hspot; rw [Go.WideShapes.add_plain]; exact hc
    | succ j => simp at hj) (by intro v hv; simp at hv; subst hv; exact h1c) b1 (by intro j hj; simp at hj; subst hj; simpa [h4] using hsp) (by intro j hj; simp at hj; subst hj; simpa [h4] using hf)
  unfold Oper.wp
  rw [h4, Nat.mul_one] at hrun
  simp [execOp, hop, resolve, invoke, builtin, hs, hx, hrun, Result.andThen]
  exact hK' _ _ hK

theorem run_clear_none (P : Program) (w : World) (t e ty : TypeId) (ht : P.underlying t = some (.slice e)) (a : Option Addr) (c : Nat) :
    (Builtin.clear_ #[t] ty #[.slice a 0 c]).run P w = .ok (.tuple #[]) w := by
  cases a <;> simp [Builtin.clear_, run_underlying ht]
end Go.Proofs.Ybulkedjq
