/-
  Plain facts on the bits of a time's 'wall' below 2^30.
-/
import Derived.Laws.BitsAllLaws
namespace Go.Proofs.Ybulkido

theorem nat_mono (n : Nat) (h : n < 9223372036854775808) : n &&& 9223372036854775808 = 0 := by
  rw [show (9223372036854775808 : Nat) = 1 <<< 63 from rfl]
  apply Nat.eq_of_testBit_eq
  intro i
  rw [Nat.testBit_and, Nat.testBit_shiftLeft, Nat.zero_testBit]
  by_cases hi : 63 ≤ i
  · have : n < 2 ^ i := Nat.lt_of_lt_of_le h (Nat.pow_le_pow_right (n := 2) (by omega) hi)
    rw [Nat.testBit_lt_two_pow this]
    rfl
  · simp [hi]

theorem nat_not (n : Nat) (h : n < 1073741824) : n &&& 18446744072635809792 = 0 := by
  rw [show (18446744072635809792 : Nat) = 17179869183 <<< 30 from rfl]
  apply Nat.eq_of_testBit_eq
  intro i
  rw [Nat.testBit_and, Nat.testBit_shiftLeft, Nat.zero_testBit]
  by_cases hi : 30 ≤ i
  · have : n < 2 ^ i := Nat.lt_of_lt_of_le h (Nat.pow_le_pow_right (n := 2) (by omega) hi)
    rw [Nat.testBit_lt_two_pow this]
    rfl
  · simp [hi]

theorem b_mask (s : Int) (h0 : 0 ≤ s) (h1 : s < 1073741824) : bits .and .u64 s 1073741823 = s := by
  rw [u64_and s 1073741823 h0 (by omega) (by omega) (by omega)]
  rw [show (1073741823 : Int).toNat = 2 ^ 30 - 1 from rfl, Nat.and_two_pow_sub_one_eq_mod]
  omega

theorem b_mono (s : Int) (h0 : 0 ≤ s) (h1 : s < 1073741824) : bits .and .u64 s 9223372036854775808 = 0 := by
  rw [u64_and s 9223372036854775808 h0 (by omega) (by omega) (by omega)]
  rw [show (9223372036854775808 : Int).toNat = 9223372036854775808 from rfl, nat_mono _ (by omega)]
  rfl

theorem b_not (s : Int) (h0 : 0 ≤ s) (h1 : s < 1073741824) : bits .andNot .u64 s 1073741823 = 0 := by
  rw [u64_andNot s 1073741823 h0 (by omega) (by omega) (by omega)]
  rw [show 18446744073709551615 - (1073741823 : Int).toNat = 18446744072635809792 from rfl, nat_not _ (by omega)]
  rfl

theorem b_or (n : Int) (h0 : 0 ≤ n) (h1 : n < 1073741824) : bits .or .u64 0 n = n := by
  rw [u64_or 0 n (by omega) (by omega) h0 (by omega)]
  simp
  omega

theorem b_neq (s : Int) (h0 : 0 ≤ s) (h1 : s < 1073741824) : (bits .and .u64 s 9223372036854775808 != 0) = false := by
  rw [b_mono s h0 h1]
  rfl
end Go.Proofs.Ybulkido
