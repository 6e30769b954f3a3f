/-
  Plain facts on the bits of a wall clock word below 2^30: no Go text in sight.
-/
import Derived.Laws.BitsAllLaws
import Derived.WalkKit
namespace Go.Proofs.Qxb6613055a

theorem nat_and_top (x : Nat) (h : x < 1073741824) : x &&& 9223372036854775808 = 0 := by
  apply Nat.eq_of_testBit_eq
  intro i
  rw [Nat.testBit_and, show (9223372036854775808 : Nat) = 2 ^ 63 * 1 by decide, Nat.testBit_two_pow_mul, Nat.zero_testBit]
  by_cases hi : i < 63
  · simp [show ¬ (63 ≤ i) by omega]
  · rw [Nat.testBit_lt_two_pow (Nat.lt_of_lt_of_le h (Nat.le_trans (by decide) (Nat.pow_le_pow_right (n := 2) (by decide) (show 63 ≤ i by omega))))]
    rfl
theorem nat_and_low (x : Nat) (h : x < 1073741824) : x &&& 1073741823 = x := by
  rw [show (1073741823 : Nat) = 2 ^ 30 - 1 by decide, Nat.and_two_pow_sub_one_eq_mod]
  exact Nat.mod_eq_of_lt h
theorem nat_and_high (x : Nat) (h : x < 1073741824) : x &&& 18446744072635809792 = 0 := by
  apply Nat.eq_of_testBit_eq
  intro i
  rw [Nat.testBit_and, show (18446744072635809792 : Nat) = 2 ^ 30 * 17179869183 by decide, Nat.testBit_two_pow_mul, Nat.zero_testBit]
  by_cases hi : i < 30
  · simp [show ¬ (30 ≤ i) by omega]
  · rw [Nat.testBit_lt_two_pow (Nat.lt_of_lt_of_le h (Nat.pow_le_pow_right (n := 2) (by decide) (show 30 ≤ i by omega)))]
    rfl

theorem and_top (x : Int) (h0 : 0 ≤ x) (h1 : x < 1073741824) : bits .and .u64 x 9223372036854775808 = 0 := by
  rw [u64_and x 9223372036854775808 h0 (by omega) (by decide) (by decide)]
  have := nat_and_top x.toNat (by omega)
  rw [show (9223372036854775808 : Int).toNat = 9223372036854775808 by decide, this]
  rfl
theorem and_low (x : Int) (h0 : 0 ≤ x) (h1 : x < 1073741824) : bits .and .u64 x 1073741823 = x := by
  rw [u64_and x 1073741823 h0 (by omega) (by decide) (by decide)]
  have := nat_and_low x.toNat (by omega)
  rw [show (1073741823 : Int).toNat = 1073741823 by decide, this]
  omega
theorem andNot_low (x : Int) (h0 : 0 ≤ x) (h1 : x < 1073741824) : bits .andNot .u64 x 1073741823 = 0 := by
  rw [u64_andNot x 1073741823 h0 (by omega) (by decide) (by decide)]
  have := nat_and_high x.toNat (by omega)
  rw [show (18446744073709551615 - (1073741823 : Int).toNat) = 18446744072635809792 by decide, this]
  rfl
theorem or_zero (x : Int) (h0 : 0 ≤ x) (h1 : x < 1073741824) : bits .or .u64 0 x = x := by
  rw [u64_or 0 x (by decide) (by decide) h0 (by omega)]
  simp
  omega
theorem and_and_top (x y : Int) (h0 : 0 ≤ x) (h1 : x < 1073741824) (k0 : 0 ≤ y) (k1 : y < 1073741824) : bits .and .u64 (bits .and .u64 x y) 9223372036854775808 = 0 := by
  have e := u64_and x y h0 (by omega) k0 (by omega)
  have : x.toNat &&& y.toNat ≤ x.toNat := Nat.and_le_left
  exact and_top _ (by rw [e]; omega) (by rw [e]; omega)

theorem top_no (x : Int) (h0 : 0 ≤ x) (h1 : x < 1073741824) : (bits .and .u64 x 9223372036854775808 != 0) = false := by
  rw [and_top x h0 h1]; rfl
theorem tops_no (x y : Int) (h0 : 0 ≤ x) (h1 : x < 1073741824) (k0 : 0 ≤ y) (k1 : y < 1073741824) : (bits .and .u64 (bits .and .u64 x y) 9223372036854775808 != 0) = false := by
  rw [and_and_top x y h0 h1 k0 k1]; rfl
end Go.Proofs.Qxb6613055a
