/-
  OUR OWN. Plain arithmetic of the operand fields: a big-endian field of 1, 2, 4 bytes is the operand modulo 256, 65536, 4294967296.
-/
import Derived.WalkKit
namespace Go.Proofs.YoeeuwDoor
open Go.RowKit

theorem u64tmod (x : Int) (m : Int) : (IntKind.u64.wrap x).tmod m = (x % 18446744073709551616) % m := by
  rw [IntKind.wrap_u64, Int.tmod_eq_emod_of_nonneg (by omega)]
theorem bytes1 (x : Int) : (x % 256 != (IntKind.u64.wrap x).tmod 256) = false := by
  rw [u64tmod, bne_eq_false_iff_eq]; omega
theorem bytes2 (x : Int) : (IntKind.u16.wrap x / 256 % 256 * 256 + IntKind.u16.wrap x % 256 != (IntKind.u64.wrap x).tmod 65536) = false := by
  rw [u64tmod, IntKind.wrap_u16, bne_eq_false_iff_eq]; omega
theorem bytes4 (x : Int) : (((x % 4294967296 / 16777216 * 256 + x % 4294967296 / 65536 % 256) * 256 + x % 4294967296 / 256 % 256) * 256 + x % 256 != (IntKind.u64.wrap x).tmod 4294967296) = false := by
  rw [u64tmod, bne_eq_false_iff_eq]; omega
end Go.Proofs.YoeeuwDoor
