/-
  OUR OWN. Plain arithmetic of the operand fields: a big-endian field of 1, 2, 4 bytes is the operand modulo 256, 65536, 4294967296.
-/
import Derived.WalkKit
namespace Go.Proofs.YoeeuwFmt
open Go.RowKit

theorem u64tmod (x : Int) (m : Int) : (IntKind.u64.wrap x).tmod m = (x % 18446744073709551616) % m := by
  rw [IntKind.wrap_u64, Int.tmod_eq_emod_of_nonneg (by omega)]
theorem bytes1 (x : Int) : (x % 256 != (IntKind.u64.wrap x).tmod 256) = false := by
  rw [u64tmod, bne_eq_false_iff_eq]; omega
theorem bytes2 (x : Int) : (IntKind.u16.wrap x / 256 % 256 * 256 + IntKind.u16.wrap x % 256 != (IntKind.u64.wrap x).tmod 65536) = false := by
  rw [u64tmod, IntKind.wrap_u16, bne_eq_false_iff_eq]; omega
theorem bytes4 (x : Int) : (((x % 4294967296 / 16777216 * 256 + x % 4294967296 / 65536 % 256) * 256 + x % 4294967296 / 256 % 256) * 256 + x % 256 != (IntKind.u64.wrap x).tmod 4294967296) = false := by
  rw [u64tmod, bne_eq_false_iff_eq]; omega

theorem bits_or_i64 (a b : Nat) (ha : a < 4611686018427387904) (hb : b < 4611686018427387904) : bits .or .i64 (a : Int) (b : Int) = ((a ||| b : Nat) : Int) := by
  have hx : a ||| b < 2 ^ 62 := Nat.or_lt_two_pow (by omega) (by omega)
  have h1 : (BitVec.ofInt 64 (a : Int)).toNat = a := by
    rw [BitVec.ofInt_natCast, BitVec.toNat_ofNat]; exact Nat.mod_eq_of_lt (by omega)
  have h2 : (BitVec.ofInt 64 (b : Int)).toNat = b := by
    rw [BitVec.ofInt_natCast, BitVec.toNat_ofNat]; exact Nat.mod_eq_of_lt (by omega)
  show IntKind.i64.wrap ((BitVec.ofInt 64 (a : Int) ||| BitVec.ofInt 64 (b : Int)).toNat : Int) = _
  rw [BitVec.toNat_or, h1, h2, IntKind.wrap_i64]
  omega
theorem or_mul (a b i m : Nat) (hm : m = 2 ^ i) (h : a < m) : a ||| (b * m) = b * m + a := by
  subst hm
  rw [Nat.or_comm, ← Nat.shiftLeft_eq, Nat.shiftLeft_add_eq_or_of_lt h]
/-- 'lo | hi << 8 * j' where lo has no bit there. -/
theorem or_i64 (x y : Int) (i m : Nat) (hm : m = 2 ^ i) (hx : 0 ≤ x ∧ x < m) (hy : 0 ≤ y ∧ y ≤ 255) (hs : m ≤ 16777216) : bits .or .i64 x (y * m) = y * m + x := by
  obtain ⟨a, rfl⟩ := Int.eq_ofNat_of_zero_le hx.1
  obtain ⟨b, rfl⟩ := Int.eq_ofNat_of_zero_le hy.1
  have e : ((b : Int) * (m : Int)) = ((b * m : Nat) : Int) := by simp
  have hbm : b * m ≤ 255 * 16777216 := Nat.mul_le_mul (by omega) hs
  rw [e, bits_or_i64 a (b * m) (by omega) (by omega), or_mul a b i m hm (by omega)]
  omega
theorem or8 (x y : Int) (hx : 0 ≤ x ∧ x ≤ 255) (hy : 0 ≤ y ∧ y ≤ 255) : bits .or .i64 x (y * 256) = y * 256 + x := or_i64 x y 8 256 rfl (by omega) hy (by omega)
theorem or16 (x y : Int) (hx : 0 ≤ x ∧ x ≤ 65535) (hy : 0 ≤ y ∧ y ≤ 255) : bits .or .i64 x (y * 65536) = y * 65536 + x := or_i64 x y 16 65536 rfl (by omega) hy (by omega)
theorem or24 (x y : Int) (hx : 0 ≤ x ∧ x ≤ 16777215) (hy : 0 ≤ y ∧ y ≤ 255) : bits .or .i64 x (y * 16777216) = y * 16777216 + x := or_i64 x y 24 16777216 rfl (by omega) hy (by omega)
theorem wrap_small (x : Int) (h : 0 ≤ x ∧ x ≤ 4294967295) : IntKind.i64.wrap x = x := by rw [IntKind.wrap_i64]; omega
end Go.Proofs.YoeeuwFmt
