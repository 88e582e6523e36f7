import Derived.Test.YbulkedcqDoorProg
import Derived.WalkKit
import Derived.WalkSpells
import Derived.Lib.Endian
import Derived.Lib.EndianBits
import Derived.Laws.IdiomCopy
import Derived.RegionTactic
import Derived.Deep.Draws
import Derived.Deep.QuietTactic
import Derived.BigQuiet
import Derived.Below
namespace Go.Proofs.YbulkedcqDoor
open Go.RowKit

/-- A byte's number. -/
def IsB (x : Int) : Prop := 0 ≤ x ∧ x < 256

/-- Eight bytes as one number, the greatest first. -/
def be8 (x0 x1 x2 x3 x4 x5 x6 x7 : Int) : Int := x7 + x6 * 256 + x5 * 65536 + x4 * 16777216 + x3 * 4294967296 + x2 * 1099511627776 + x1 * 281474976710656 + x0 * 72057594037927936

set_option maxHeartbeats 8000000 in
set_option maxRecDepth 100000 in
theorem be64_any (g o c : Nat) (x0 x1 x2 x3 x4 x5 x6 x7 : Int) (w : World) (h0 : IsB x0) (h1 : IsB x1) (h2 : IsB x2) (h3 : IsB x3) (h4 : IsB x4) (h5 : IsB x5) (h6 : IsB x6) (h7 : IsB x7)
    (c0 : w.cell? ⟨g, o, none⟩ = some (.int .u8 x0)) (c1 : w.cell? ⟨g, o + 1, none⟩ = some (.int .u8 x1)) (c2 : w.cell? ⟨g, o + 2, none⟩ = some (.int .u8 x2)) (c3 : w.cell? ⟨g, o + 3, none⟩ = some (.int .u8 x3)) (c4 : w.cell? ⟨g, o + 4, none⟩ = some (.int .u8 x4)) (c5 : w.cell? ⟨g, o + 5, none⟩ = some (.int .u8 x5)) (c6 : w.cell? ⟨g, o + 6, none⟩ = some (.int .u8 x6)) (c7 : w.cell? ⟨g, o + 7, none⟩ = some (.int .u8 x7)) :
    Calls Ybad.prog 10 #[.slice (some ⟨g, o, none⟩) 8 c] w fun e w' => e = .returned (.int .u64 (be8 x0 x1 x2 x3 x4 x5 x6 x7)) ∧ ∃ q, w' = w.drewN q := by
  unfold IsB at h0 h1 h2 h3 h4 h5 h6 h7
  have hv : Hid (be8 x0 x1 x2 x3 x4 x5 x6 x7 = x7 + x6 * 256 + x5 * 65536 + x4 * 16777216 + x3 * 4294967296 + x2 * 1099511627776 + x1 * 281474976710656 + x0 * 72057594037927936) := rfl
  go_enter Ybad.func10, Ybad.ntmps10
  go_wp2
  go_quiet (fail)
  go_wp2
  go_ret
  refine ⟨?_, _, rfl⟩
  simp (disch := omega) only [u64_or8, u64_or16, u64_or24, u64_or32, u64_or40, u64_or48, u64_or56]
  rw [hv.out]
  rfl

set_option maxHeartbeats 8000000 in
set_option maxRecDepth 100000 in
theorem put64_any (g o c : Nat) (v : Int) (hv0 : 0 ≤ v) (hv1 : v < 18446744073709551616) (y0 y1 y2 y3 y4 y5 y6 y7 : Value) (w : World)
    (c0 : w.cell? ⟨g, o, none⟩ = some y0) (c1 : w.cell? ⟨g, o + 1, none⟩ = some y1) (c2 : w.cell? ⟨g, o + 2, none⟩ = some y2) (c3 : w.cell? ⟨g, o + 3, none⟩ = some y3) (c4 : w.cell? ⟨g, o + 4, none⟩ = some y4) (c5 : w.cell? ⟨g, o + 5, none⟩ = some y5) (c6 : w.cell? ⟨g, o + 6, none⟩ = some y6) (c7 : w.cell? ⟨g, o + 7, none⟩ = some y7)
    (f0 : w.frozen? ⟨g, o, none⟩ = false) (f1 : w.frozen? ⟨g, o + 1, none⟩ = false) (f2 : w.frozen? ⟨g, o + 2, none⟩ = false) (f3 : w.frozen? ⟨g, o + 3, none⟩ = false) (f4 : w.frozen? ⟨g, o + 4, none⟩ = false) (f5 : w.frozen? ⟨g, o + 5, none⟩ = false) (f6 : w.frozen? ⟨g, o + 6, none⟩ = false) (f7 : w.frozen? ⟨g, o + 7, none⟩ = false) :
    Calls Ybad.prog 16 #[.slice (some ⟨g, o, none⟩) 8 c, .int .u64 v] w fun e w' => e = .returned (.tuple #[]) ∧ w' = w.setCells g o [.int .u8 (v / 72057594037927936), .int .u8 (v / 281474976710656 % 256), .int .u8 (v / 1099511627776 % 256), .int .u8 (v / 4294967296 % 256), .int .u8 (v / 16777216 % 256), .int .u8 (v / 65536 % 256), .int .u8 (v / 256 % 256), .int .u8 (v % 256)] := by
  go_enter Ybad.func16, Ybad.ntmps16
  go_wp2
  go_end0
  exact ⟨rfl, rfl⟩

theorem be8_bytes {x0 x1 x2 x3 x4 x5 x6 x7 : Int} (h0 : IsB x0) (h1 : IsB x1) (h2 : IsB x2) (h3 : IsB x3) (h4 : IsB x4) (h5 : IsB x5) (h6 : IsB x6) (h7 : IsB x7) :
    let v := be8 x0 x1 x2 x3 x4 x5 x6 x7
    (0 ≤ v ∧ v < 18446744073709551616) ∧ v / 72057594037927936 = x0 ∧ v / 281474976710656 % 256 = x1 ∧ v / 1099511627776 % 256 = x2 ∧ v / 4294967296 % 256 = x3 ∧ v / 16777216 % 256 = x4 ∧ v / 65536 % 256 = x5 ∧ v / 256 % 256 = x6 ∧ v % 256 = x7 := by
  unfold IsB at *
  simp only [be8]
  omega
end Go.Proofs.YbulkedcqDoor
