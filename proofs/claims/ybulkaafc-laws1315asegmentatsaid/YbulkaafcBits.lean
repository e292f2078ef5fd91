import Derived.Laws.BitsAllLaws
import Derived.Below
namespace Go.Proofs.Ybulkaafc
open Go.RowKit

/-- Nanoseconds within a second: no monotonic mark. -/
theorem and_mask (x : Int) (h0 : 0 ≤ x) (h1 : x < 1000000000) : bits .and .u64 x 1073741823 = x := by
  rw [u64_and x 1073741823 h0 (by omega) (by omega) (by omega)]
  have : x.toNat &&& (1073741823 : Int).toNat = x.toNat % 1073741824 := Nat.and_two_pow_sub_one_eq_mod x.toNat 30
  rw [this]
  omega
theorem and_top (x : Int) (h0 : 0 ≤ x) (h1 : x < 1000000000) : bits .and .u64 x 9223372036854775808 = 0 := by
  rw [u64_and x 9223372036854775808 h0 (by omega) (by omega) (by omega)]
  have : x.toNat &&& (9223372036854775808 : Int).toNat = x.toNat / 2 ^ 63 % 2 * 2 ^ 63 := nat_bit 63 x.toNat
  rw [this]
  omega
theorem andNot_mask (x : Int) (h0 : 0 ≤ x) (h1 : x < 1000000000) : bits .andNot .u64 x 1073741823 = 0 := by
  rw [u64_andNot x 1073741823 h0 (by omega) (by omega) (by omega)]
  have e : (18446744073709551615 - (1073741823 : Int).toNat : Nat) = 2 ^ 30 * 17179869183 := by decide
  rw [e]
  have hx : x.toNat < 2 ^ 30 := by omega
  have : x.toNat &&& (2 ^ 30 * 17179869183) = 0 := by
    apply Nat.eq_of_testBit_eq
    intro i
    rw [Nat.testBit_and, Nat.zero_testBit, Nat.testBit_two_pow_mul]
    by_cases hi : 30 ≤ i
    · rw [Nat.testBit_lt_two_pow (Nat.lt_of_lt_of_le hx (Nat.pow_le_pow_right (by omega) hi))]; simp
    · simp [hi]
  rw [this]
  rfl
theorem or_zero (x : Int) (h0 : 0 ≤ x) (h1 : x < 1000000000) : bits .or .u64 0 x = x := by
  rw [u64_or 0 x (by omega) (by omega) h0 (by omega)]
  have : (0 : Int).toNat ||| x.toNat = x.toNat := Nat.zero_or _
  rw [this]
  omega
theorem and_two (x y : Int) (h0 : 0 ≤ x) (h1 : x < 1000000000) (k0 : 0 ≤ y) (k1 : y < 1000000000) : bits .and .u64 (bits .and .u64 x y) 9223372036854775808 = 0 := by
  rw [u64_and x y h0 (by omega) k0 (by omega)]
  have h : x.toNat &&& y.toNat ≤ x.toNat := Nat.and_le_left
  exact and_top _ (by omega) (by omega)
end Go.Proofs.Ybulkaafc
