/-
  Plain arithmetic: the masks of time.Time's first word where no monotonic reading is in it.
-/
import Derived.Test.YbulkiugDoorRows
import Derived.WalkKit
namespace Go.Proofs.YbulkiugDoor

theorem and_low (n : Int) (h0 : 0 ≤ n) (h1 : n < 1073741824) : bits .and .u64 n 1073741823 = n := by
  obtain ⟨a, rfl⟩ := Int.eq_ofNat_of_zero_le h0
  have h := bits_and_u64_nat a 1073741823 (by omega) (by omega)
  have e : a &&& 1073741823 = a % 1073741824 := Nat.and_two_pow_sub_one_eq_mod a 30
  rw [e] at h
  exact h.trans (by omega)

theorem nat_and_apart (a c : Nat) (h : a < 2 ^ 30) : a &&& (c * 2 ^ 30) = 0 := by
  apply Nat.eq_of_testBit_eq
  intro i
  rw [Nat.testBit_and, Nat.zero_testBit]
  by_cases hi : i < 30
  · rw [Nat.testBit_mul_two_pow]
    simp [Nat.not_le.2 hi]
  · have : a.testBit i = false := Nat.testBit_lt_two_pow (Nat.lt_of_lt_of_le h (Nat.pow_le_pow_right (by omega) (by omega)))
    rw [this]
    rfl

theorem and_high (n : Int) (h0 : 0 ≤ n) (h1 : n < 1073741824) : bits .and .u64 n 9223372036854775808 = 0 := by
  obtain ⟨a, rfl⟩ := Int.eq_ofNat_of_zero_le h0
  have h := bits_and_u64_nat a 9223372036854775808 (by omega) (by omega)
  have e : a &&& 9223372036854775808 = 0 := nat_and_apart a 8589934592 (by omega)
  rw [e] at h
  exact h

theorem andNot_low (n : Int) (h0 : 0 ≤ n) (h1 : n < 1073741824) : bits .andNot .u64 n 1073741823 = 0 := by
  obtain ⟨a, rfl⟩ := Int.eq_ofNat_of_zero_le h0
  have h := u64_andNot_nat a 1073741823 (by omega) (by omega)
  have e : a &&& (18446744073709551615 - 1073741823) = 0 := nat_and_apart a 17179869183 (by omega)
  rw [e] at h
  exact h

theorem or_zero (n : Int) (h0 : 0 ≤ n) (h1 : n < 18446744073709551616) : bits .or .u64 0 n = n := by
  obtain ⟨a, rfl⟩ := Int.eq_ofNat_of_zero_le h0
  have h := bits_or_u64_nat 0 a (by omega) (by omega)
  simpa using h
end Go.Proofs.YbulkiugDoor
