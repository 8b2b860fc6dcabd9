/- Part 24 of the proof: Zig. -/
import Derived.Test.YtjekbomlpcdojaaGreatDoorH14
set_option linter.unusedVariables false
set_option linter.unusedSimpArgs false
set_option linter.unusedSectionVars false
set_option maxHeartbeats 16000000
namespace Go.Proofs.YtjekbomlpcdojaaGreatDoor
open Go Go.RowKit
theorem i64_wr (n : Int) : IntKind.i64.wrap n = if n % 18446744073709551616 ≥ 9223372036854775808 then n % 18446744073709551616 - 18446744073709551616 else n % 18446744073709551616 := by
 simp [IntKind.wrap, IntKind.bits, IntKind.signed]
theorem i32_wr (n : Int) : IntKind.i32.wrap n = if n % 4294967296 ≥ 2147483648 then n % 4294967296 - 4294967296 else n % 4294967296 := by
 simp [IntKind.wrap, IntKind.bits, IntKind.signed]
theorem i16_wr (n : Int) : IntKind.i16.wrap n = if n % 65536 ≥ 32768 then n % 65536 - 65536 else n % 65536 := by
 simp [IntKind.wrap, IntKind.bits, IntKind.signed]
theorem u64_wr (n : Int) : IntKind.u64.wrap n = n % 18446744073709551616 := by
 simp [IntKind.wrap, IntKind.bits, IntKind.signed]
theorem u32_wr (n : Int) : IntKind.u32.wrap n = n % 4294967296 := by
 simp [IntKind.wrap, IntKind.bits, IntKind.signed]
theorem ofInt64 (x : Int) (n : Nat) (h : x % 18446744073709551616 = ((n % 18446744073709551616 : Nat) : Int)) : BitVec.ofInt 64 x = BitVec.ofNat 64 n := by
 apply BitVec.eq_of_toNat_eq
 simp only [BitVec.toNat_ofInt, BitVec.toNat_ofNat]
 omega
theorem ofInt32 (x : Int) (n : Nat) (h : x % 4294967296 = ((n % 4294967296 : Nat) : Int)) : BitVec.ofInt 32 x = BitVec.ofNat 32 n := by
 apply BitVec.eq_of_toNat_eq
 simp only [BitVec.toNat_ofInt, BitVec.toNat_ofNat]
 omega
theorem or_low (k acc c : Nat) (h : acc < 2 ^ k) : acc ||| c * 2 ^ k = acc + c * 2 ^ k := by
 rw [Nat.or_comm, Nat.mul_comm, ← Nat.two_pow_add_eq_or_of_lt h, Nat.add_comm]
theorem or_i64 (k acc c : Nat) (h : acc < 2 ^ k) : bits .or .i64 (IntKind.i64.wrap (acc : Nat)) (IntKind.i64.wrap ((c : Int) * 2 ^ k)) = IntKind.i64.wrap ((acc + c * 2 ^ k : Nat) : Int) := by
 show IntKind.i64.wrap ((BitVec.ofInt 64 _ ||| BitVec.ofInt 64 _).toNat : Int) = _
 have e0 : ((c : Int) * 2 ^ k) = ((c * 2 ^ k : Nat) : Int) := by simp
 rw [e0]
 rw [ofInt64 (IntKind.i64.wrap (acc : Nat)) acc (by rw [i64_wr]; split <;> omega), ofInt64 (IntKind.i64.wrap ((c * 2 ^ k : Nat) : Int)) (c * 2 ^ k) (by rw [i64_wr]; split <;> omega)]
 rw [← BitVec.ofNat_or, BitVec.toNat_ofNat, or_low k acc c h, i64_wr, i64_wr]
 generalize acc + c * 2 ^ k = m
 have e2 : ((m % 2 ^ 64 : Nat) : Int) % 18446744073709551616 = (m : Int) % 18446744073709551616 := by omega
 rw [e2]
theorem or_u64 (k acc c : Nat) (h : acc < 2 ^ k) (hm : c * 2 ^ k < 18446744073709551616) (ha : acc + c * 2 ^ k < 18446744073709551616) : bits .or .u64 (acc : Nat) (IntKind.u64.wrap ((c : Int) * 2 ^ k)) = ((acc + c * 2 ^ k : Nat) : Int) := by
 show IntKind.u64.wrap ((BitVec.ofInt 64 _ ||| BitVec.ofInt 64 _).toNat : Int) = _
 have e0 : ((c : Int) * 2 ^ k) = ((c * 2 ^ k : Nat) : Int) := by simp
 rw [e0]
 rw [ofInt64 (acc : Nat) acc (by omega), ofInt64 (IntKind.u64.wrap ((c * 2 ^ k : Nat) : Int)) (c * 2 ^ k) (by rw [u64_wr]; omega)]
 rw [← BitVec.ofNat_or, BitVec.toNat_ofNat, or_low k acc c h, u64_wr]
 rw [Nat.mod_eq_of_lt ha]
 omega
theorem and1_i32 (n : Int) : bits .and .i32 n 1 = n % 2 := by
 show IntKind.i32.wrap ((BitVec.ofInt 32 n &&& BitVec.ofInt 32 1).toNat : Int) = _
 rw [ofInt32 n (n % 4294967296).toNat (by omega), ofInt32 1 1 (by decide), ← BitVec.ofNat_and, BitVec.toNat_ofNat]
 have := Nat.and_two_pow_sub_one_eq_mod (n % 4294967296).toNat 1
 simp only [Nat.pow_one, Nat.reduceSub] at this
 rw [this, i32_wr]
 split <;> omega
theorem and1_u32 (n : Int) : bits .and .u32 n 1 = n % 2 := by
 show IntKind.u32.wrap ((BitVec.ofInt 32 n &&& BitVec.ofInt 32 1).toNat : Int) = _
 rw [ofInt32 n (n % 4294967296).toNat (by omega), ofInt32 1 1 (by decide), ← BitVec.ofNat_and, BitVec.toNat_ofNat]
 have := Nat.and_two_pow_sub_one_eq_mod (n % 4294967296).toNat 1
 simp only [Nat.pow_one, Nat.reduceSub] at this
 rw [this, u32_wr]
 omega
theorem and1_i64 (n : Int) : bits .and .i64 n 1 = n % 2 := by
 show IntKind.i64.wrap ((BitVec.ofInt 64 n &&& BitVec.ofInt 64 1).toNat : Int) = _
 rw [ofInt64 n (n % 18446744073709551616).toNat (by omega), ofInt64 1 1 (by decide), ← BitVec.ofNat_and, BitVec.toNat_ofNat]
 have := Nat.and_two_pow_sub_one_eq_mod (n % 18446744073709551616).toNat 1
 simp only [Nat.pow_one, Nat.reduceSub] at this
 rw [this, i64_wr]
 split <;> omega
theorem and1_u64 (n : Int) : bits .and .u64 n 1 = n % 2 := by
 show IntKind.u64.wrap ((BitVec.ofInt 64 n &&& BitVec.ofInt 64 1).toNat : Int) = _
 rw [ofInt64 n (n % 18446744073709551616).toNat (by omega), ofInt64 1 1 (by decide), ← BitVec.ofNat_and, BitVec.toNat_ofNat]
 have := Nat.and_two_pow_sub_one_eq_mod (n % 18446744073709551616).toNat 1
 simp only [Nat.pow_one, Nat.reduceSub] at this
 rw [this, u64_wr]
 omega
theorem xor0_i32 (n : Nat) (h : n < 2147483648) : bits .xor .i32 (n : Int) 0 = n := by
 show IntKind.i32.wrap ((BitVec.ofInt 32 (n : Int) ^^^ BitVec.ofInt 32 0).toNat : Int) = _
 rw [ofInt32 (n : Int) n (by omega), ofInt32 0 0 (by decide), ← BitVec.ofNat_xor, BitVec.toNat_ofNat, Nat.xor_zero, i32_wr]
 split <;> omega
theorem xor0_i64 (n : Nat) (h : n < 9223372036854775808) : bits .xor .i64 (n : Int) 0 = n := by
 show IntKind.i64.wrap ((BitVec.ofInt 64 (n : Int) ^^^ BitVec.ofInt 64 0).toNat : Int) = _
 rw [ofInt64 (n : Int) n (by omega), ofInt64 0 0 (by decide), ← BitVec.ofNat_xor, BitVec.toNat_ofNat, Nat.xor_zero, i64_wr]
 split <;> omega
theorem xor_ones (m n : Nat) (h : n < 2 ^ m) : n ^^^ (2 ^ m - 1) = 2 ^ m - 1 - n := by
 apply Nat.eq_of_testBit_eq
 intro i
 rw [Nat.testBit_xor, Nat.testBit_two_pow_sub_one, show 2 ^ m - 1 - n = 2 ^ m - (n + 1) by omega, Nat.testBit_two_pow_sub_succ h]
 by_cases hi : i < m
 ·simp [hi]
 ·have : n.testBit i = false := Nat.testBit_lt_two_pow (Nat.lt_of_lt_of_le h (Nat.pow_le_pow_right (by decide) (by omega)))
  simp [hi, this]
theorem xor1_i32 (n : Nat) (h : n < 2147483648) : bits .xor .i32 (n : Int) (-1) = -(n : Int) - 1 := by
 show IntKind.i32.wrap ((BitVec.ofInt 32 (n : Int) ^^^ BitVec.ofInt 32 (-1)).toNat : Int) = _
 have := xor_ones 32 n (by omega)
 simp only [Nat.reducePow, Nat.reduceSub] at this
 rw [ofInt32 (n : Int) n (by omega), ofInt32 (-1) 4294967295 (by decide), ← BitVec.ofNat_xor, BitVec.toNat_ofNat, this, i32_wr]
 split <;> omega
theorem xor1_i64 (n : Nat) (h : n < 9223372036854775808) : bits .xor .i64 (n : Int) (-1) = -(n : Int) - 1 := by
 show IntKind.i64.wrap ((BitVec.ofInt 64 (n : Int) ^^^ BitVec.ofInt 64 (-1)).toNat : Int) = _
 have := xor_ones 64 n (by omega)
 simp only [Nat.reducePow, Nat.reduceSub] at this
 rw [ofInt64 (n : Int) n (by omega), ofInt64 (-1) 18446744073709551615 (by decide), ← BitVec.ofNat_xor, BitVec.toNat_ofNat, this, i64_wr]
 split <;> omega
theorem unzig32 (m : Nat) (h : m < 4294967296) : bits .xor .i32 (((m / 2 : Nat) : Int)) (-((m : Int) % 2)) = zz m := by
 unfold zz
 by_cases he : m % 2 = 0
 ·rw [if_pos he, show (-((m : Int) % 2)) = 0 by omega]
  exact xor0_i32 _ (by omega)
 ·rw [if_neg he, show (-((m : Int) % 2)) = -1 by omega]
  exact xor1_i32 _ (by omega)
theorem unzig64 (m : Nat) (h : m < 18446744073709551616) : bits .xor .i64 (((m / 2 : Nat) : Int)) (-((m : Int) % 2)) = zz m := by
 unfold zz
 by_cases he : m % 2 = 0
 ·rw [if_pos he, show (-((m : Int) % 2)) = 0 by omega]
  exact xor0_i64 _ (by omega)
 ·rw [if_neg he, show (-((m : Int) % 2)) = -1 by omega]
  exact xor1_i64 _ (by omega)
theorem and15_fin : ∀ b : Fin 256, bits .and .u8 ((b.val : Nat) : Int) 15 = ((b.val % 16 : Nat) : Int) := by decide +kernel
theorem and240_fin : ∀ b : Fin 256, bits .and .u8 ((b.val : Nat) : Int) 240 = ((b.val / 16 * 16 : Nat) : Int) := by decide +kernel
theorem and127_fin : ∀ b : Fin 256, bits .and .u8 ((b.val : Nat) : Int) 127 = ((b.val % 128 : Nat) : Int) := by decide +kernel
theorem and128_fin : ∀ b : Fin 256, bits .and .u8 ((b.val : Nat) : Int) 128 = ((b.val / 128 * 128 : Nat) : Int) := by decide +kernel
theorem and1_fin : ∀ b : Fin 256, bits .and .u8 ((b.val : Nat) : Int) 1 = ((b.val % 2 : Nat) : Int) := by decide +kernel
theorem u8_and15 (b : UInt8) : bits .and .u8 ((b.toNat : Nat) : Int) 15 = ((b.toNat % 16 : Nat) : Int) := and15_fin ⟨b.toNat, b.toNat_lt⟩
theorem u8_and240 (b : UInt8) : bits .and .u8 ((b.toNat : Nat) : Int) 240 = ((b.toNat / 16 * 16 : Nat) : Int) := and240_fin ⟨b.toNat, b.toNat_lt⟩
theorem u8_and127' (b : UInt8) : bits .and .u8 ((b.toNat : Nat) : Int) 127 = ((b.toNat % 128 : Nat) : Int) := and127_fin ⟨b.toNat, b.toNat_lt⟩
theorem u8_and128 (b : UInt8) : bits .and .u8 ((b.toNat : Nat) : Int) 128 = ((b.toNat / 128 * 128 : Nat) : Int) := and128_fin ⟨b.toNat, b.toNat_lt⟩
theorem u8_and1 (b : UInt8) : bits .and .u8 ((b.toNat : Nat) : Int) 1 = ((b.toNat % 2 : Nat) : Int) := and1_fin ⟨b.toNat, b.toNat_lt⟩
end Go.Proofs.YtjekbomlpcdojaaGreatDoor
