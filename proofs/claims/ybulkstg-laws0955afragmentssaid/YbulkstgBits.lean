import Derived.WalkKit
import Derived.Laws.Bits128
import Derived.Laws.BitsAllLaws
namespace Go.Proofs.Ybulkstg.Bt
open Go

/-! Plain facts on the bit operations that the texts use. -/
theorem i64_and7 (n : Int) : bits .and .i64 n 7 = n % 8 := by
  have h7 : (BitVec.ofInt 64 7).toNat = 2 ^ 3 - 1 := by decide
  have key : (BitVec.ofInt 64 n &&& BitVec.ofInt 64 7).toNat = (n % ((2 ^ 64 : Nat) : Int)).toNat % 2 ^ 3 := by
    rw [BitVec.toNat_and, BitVec.toNat_ofInt, h7, Nat.and_two_pow_sub_one_eq_mod]
  show IntKind.i64.wrap ((BitVec.ofInt 64 n &&& BitVec.ofInt 64 7).toNat : Nat) = n % 8
  rw [key, IntKind.wrap_i64]
  omega

theorem nat_and8 (x : Nat) (hx : x < 18446744073709551616) : x &&& 18446744073709551608 = x - x % 8 := by
  have e : x - x % 8 = (x >>> 3) <<< 3 := by rw [Nat.shiftRight_eq_div_pow, Nat.shiftLeft_eq]; omega
  have e2 : (18446744073709551608 : Nat) = (2 ^ 61 - 1) <<< 3 := by decide
  rw [e, e2]
  apply Nat.eq_of_testBit_eq
  intro i
  rw [Nat.testBit_and, Nat.testBit_shiftLeft, Nat.testBit_shiftLeft, Nat.testBit_shiftRight, Nat.testBit_two_pow_sub_one]
  by_cases h3 : 3 ≤ i
  · rw [show 3 + (i - 3) = i by omega]
    by_cases hi : i < 64
    · have : i - 3 < 61 := by omega
      simp [h3, this]
    · have : x.testBit i = false := Nat.testBit_lt_two_pow (Nat.lt_of_lt_of_le hx (by
        have : 2 ^ 64 ≤ 2 ^ i := Nat.pow_le_pow_right (by omega) (by omega)
        simpa using this))
      simp [this]
  · simp [h3]

theorem i64_andNot7 (n : Int) (h0 : 0 ≤ n) (h1 : n < 9223372036854775808) : bits .andNot .i64 n 7 = n - n % 8 := by
  obtain ⟨x, rfl⟩ := Int.eq_ofNat_of_zero_le h0
  have h7 : (BitVec.ofInt 64 7).toNat = 7 := by decide
  have hx : (BitVec.ofInt 64 (x : Int)).toNat = x := by rw [BitVec.toNat_ofInt]; omega
  show IntKind.i64.wrap ((BitVec.ofInt 64 (x : Int) &&& ~~~BitVec.ofInt 64 7).toNat : Nat) = _
  rw [BitVec.toNat_and, BitVec.toNat_not, hx, h7, show 2 ^ 64 - 1 - 7 = 18446744073709551608 by decide, nat_and8 x (by omega), IntKind.wrap_i64]
  omega

/-- The high bits of the length octets. -/
theorem u64_or_8000 (n : Int) (h0 : 0 ≤ n) (h1 : n < 16384) : bits .or .u64 32768 n = 32768 + n :=
  bits_join .u64 64 (by decide) (fun n h0 h1 => by rw [IntKind.wrap_u64]; omega) 15 32768 n (by decide) (by decide) (by decide) h0 (by omega) (by omega)
theorem i64_or_80 (n : Int) (h0 : 0 ≤ n) (h1 : n < 64) : bits .or .i64 128 n = 128 + n := by
  obtain ⟨x, rfl⟩ := Int.eq_ofNat_of_zero_le h0
  have h : ∀ x : Fin 64, bits .or .i64 128 ((x : Nat) : Int) = 128 + ((x : Nat) : Int) := by decide
  exact h ⟨x, by omega⟩
theorem i64_or_c0 (n : Int) (h0 : 0 ≤ n) (h1 : n ≤ 4) : bits .or .i64 192 n = 192 + n := by
  obtain ⟨x, rfl⟩ := Int.eq_ofNat_of_zero_le h0
  have h : ∀ x : Fin 5, bits .or .i64 192 ((x : Nat) : Int) = 192 + ((x : Nat) : Int) := by decide
  exact h ⟨x, by omega⟩
theorem u64_or_c0 (n : Int) (h0 : 0 ≤ n) (h1 : n ≤ 4) : bits .or .u64 192 n = 192 + n := by
  obtain ⟨x, rfl⟩ := Int.eq_ofNat_of_zero_le h0
  have h : ∀ x : Fin 5, bits .or .u64 192 ((x : Nat) : Int) = 192 + ((x : Nat) : Int) := by decide
  exact h ⟨x, by omega⟩
end Go.Proofs.Ybulkstg.Bt
