import Derived.Test.YbulkedcqDoorProg
import Derived.WalkKit
import Derived.WalkSpells
import Derived.Laws.LoneSync
import Derived.Lib.Builder
import Derived.Below
namespace Go.Proofs.YbulkedcqDoor
open Go.RowKit

/-- sync/atomic.StorePointer: the pointer is stored. -/
theorem run_call_store_ptr {P : Program} {f : Nat} {fn : Func} (hf : P.funcs[f]? = some fn) (hname : (fn.name == "runtime.NumGoroutine") = false) (hb : fn.body.isNone = true) (hn : Extern.findNext fn = none)
    (he : Extern.find fn = some Extern.Atomic.storeT) {a : Addr} {y : Option Addr} {u : Value} {w : World} (hc : w.cell? a = some u) (hz : w.frozen? a = false) :
    (callFunc f #[.pointer (some a), .pointer y]).run P w = .ok (.value (.tuple #[])) (w.setCell a (.pointer y)) := by
  rw [run_callFunc_extern hf hname hb hn he]
  change (Sem.run P (do
    store (← asAddr (.pointer (some a))) (.pointer y) .atomic
    pure Extern.Atomic.none_) w).andThen _ = _
  simp [asAddr, hc, hz, run_store P w a (.pointer y) .atomic rfl, Result.andThen, Extern.Atomic.none_]

/-- sync/atomic.LoadPointer: what the cell holds. -/
theorem run_call_load_ptr {P : Program} {f : Nat} {fn : Func} (hf : P.funcs[f]? = some fn) (hname : (fn.name == "runtime.NumGoroutine") = false) (hb : fn.body.isNone = true) (hn : Extern.findNext fn = none)
    (he : Extern.find fn = some (Extern.Atomic.loadT .ptr)) {a : Addr} {x : Option Addr} {w : World} (hc : w.cell? a = some (.pointer x)) :
    (callFunc f #[.pointer (some a)]).run P w = .ok (.value (.pointer x)) w := by
  rw [run_callFunc_extern hf hname hb hn he]
  change (Sem.run P (do Extern.Atomic.read .ptr (← asAddr (.pointer (some a)))) w).andThen _ = _
  simp [Extern.Atomic.read, asAddr, hc, Result.andThen]

theorem info31 : ∃ j, Ybad.prog.info? 31 = some j ∧ j.size ≠ 0 := by
  have h : (Ybad.prog.info? 31).map (fun i => decide (i.size = 0)) = some false := by kernel_rfl
  obtain ⟨j, hj, h0⟩ := Option.map_eq_some_iff.1 h
  exact ⟨j, hj, by simpa using h0⟩

theorem lies31 : liesAt Ybad.prog Ybad.prog.depth 31 (2 / Ybad.prog.cellsOf 31) 0 31 1 = true := by kernel_rfl

theorem store_any (sb kb : Nat) (w : World) (u : Value) (hs : w.cell? ⟨sb, 0, none⟩ = some u) (hf : w.frozen? ⟨sb, 0, none⟩ = false) (hk : w.shape? kb = some (31, 2)) :
    Calls Ybad.prog 4 #[.pointer (some ⟨sb, 0, none⟩), .pointer (some ⟨kb, 0, none⟩)] w fun e w' => e = .returned (.tuple #[]) ∧ w' = w.setCell ⟨sb, 0, none⟩ (.pointer (some ⟨kb, 0, none⟩)) := by
  obtain ⟨j, hj, hj0⟩ := info31
  have hcv := Lib.run_to_unsafe (P := Ybad.prog) w (src := 27) (dst := 36) ⟨kb, 0, none⟩ Ybad.underlying27 Ybad.underlying36 hj hj0 hk (by show (0 : Nat) < 2; decide)
  have hcall := run_call_store_ptr (P := Ybad.prog) (f := 9) Ybad.func9 (by kernel_rfl) (by kernel_rfl) (by kernel_rfl) (by kernel_rfl) (y := some ⟨kb, 0, none⟩) hs hf
  clear hj hj0
  go_enter Ybad.func4, Ybad.ntmps4
  go_wp2
  go_end0
  exact ⟨rfl, rfl⟩

theorem load_any (sb kb : Nat) (w : World) (hs : w.cell? ⟨sb, 0, none⟩ = some (.pointer (some ⟨kb, 0, none⟩))) (hk : w.shape? kb = some (31, 2)) :
    Calls Ybad.prog 8 #[.pointer (some ⟨sb, 0, none⟩)] w fun e w' => e = .returned (.pointer (some ⟨kb, 0, none⟩)) ∧ w' = w := by
  obtain ⟨j, hj, hj0⟩ := info31
  have hcv := Lib.run_from_unsafe (P := Ybad.prog) w (src := 36) (dst := 27) ⟨kb, 0, none⟩ Ybad.underlying36 Ybad.underlying27 hj hk lies31
  have hcall := run_call_load_ptr (P := Ybad.prog) (f := 15) Ybad.func15 (by kernel_rfl) (by kernel_rfl) (by kernel_rfl) (by kernel_rfl) hs
  clear hj hj0
  go_enter Ybad.func8, Ybad.ntmps8
  go_wp2
  go_ret
  exact ⟨rfl, rfl⟩
end Go.Proofs.YbulkedcqDoor
