import Derived.WalkKit
import Derived.Lib.EndianBits
namespace Go.Proofs.YbulkedcqDoor
open Go.RowKit

theorem nat_and_255 (n : Nat) : n &&& 255 = n % 256 := Nat.and_two_pow_sub_one_eq_mod n 8

theorem and255_u64 (x : Int) : bits .and .u64 x 255 = x % 256 := by
  unfold bits
  have e : (BitVec.ofInt 64 x &&& BitVec.ofInt 64 255).toNat = (x % 18446744073709551616).toNat % 256 := by
    rw [BitVec.toNat_and, BitVec.toNat_ofInt]
    exact nat_and_255 _
  show IntKind.u64.wrap ((BitVec.ofInt 64 x &&& BitVec.ofInt 64 255).toNat : Int) = _
  rw [e, IntKind.wrap_u64]
  omega

theorem and255_u16 (x : Int) : bits .and .u16 x 255 = x % 256 := by
  unfold bits
  have e : (BitVec.ofInt 16 x &&& BitVec.ofInt 16 255).toNat = (x % 65536).toNat % 256 := by
    rw [BitVec.toNat_and, BitVec.toNat_ofInt]
    exact nat_and_255 _
  show IntKind.u16.wrap ((BitVec.ofInt 16 x &&& BitVec.ofInt 16 255).toNat : Int) = _
  rw [e, IntKind.wrap_u16]
  omega

theorem join_byte (x : Int) : bits .and .u64 (IntKind.u64.wrap x) 255 % 256 = x % 256 := by
  rw [and255_u64, IntKind.wrap_u64]
  omega
theorem port_byte (x : Int) : bits .and .u16 x 255 % 256 = x % 256 := by
  rw [and255_u16]
  omega
end Go.Proofs.YbulkedcqDoor
