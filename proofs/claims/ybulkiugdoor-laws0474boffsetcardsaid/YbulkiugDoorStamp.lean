/-
  Plain arithmetic of the stamp.
-/
import Derived.Test.YbulkiugDoorParts
namespace Go.Proofs.YbulkiugDoor
open Go.RowKit

theorem stamp_eq (sec n : Int) (h0 : 0 ≤ sec) (h1 : sec < 4294967296) (h2 : 0 ≤ n) (h3 : n < 1000000000) : stamp sec n = sec * 4294967296 + n * 4294967296 / 1000000000 := by
  obtain ⟨a, rfl⟩ := Int.eq_ofNat_of_zero_le h0
  obtain ⟨b, rfl⟩ := Int.eq_ofNat_of_zero_le h2
  have e1 : IntKind.u64.wrap ((a : Int) * 4294967296) = ((2 ^ 32 * a : Nat) : Int) := by rw [IntKind.wrap_u64]; omega
  have e2 : IntKind.u64.wrap ((b : Int) * 4294967296) = ((b * 4294967296 : Nat) : Int) := by rw [IntKind.wrap_u64]; omega
  have e3 : IntKind.u64.wrap (((b * 4294967296 : Nat) : Int).tdiv 1000000000) = ((b * 4294967296 / 1000000000 : Nat) : Int) := by
    rw [Int.tdiv_eq_ediv_of_nonneg (by omega), IntKind.wrap_u64]
    omega
  unfold stamp
  rw [e1, e2, e3, bits_or_u64_nat _ _ (by omega) (by omega), ← Nat.two_pow_add_eq_or_of_lt (by omega)]
  omega

theorem stamp_div (sec n : Int) (h0 : 0 ≤ sec) (h1 : sec < 4294967296) (h2 : 0 ≤ n) (h3 : n < 1000000000) : stamp sec n / 4294967296 = sec := by
  rw [stamp_eq sec n h0 h1 h2 h3]
  omega

theorem wrap64_range (x : Int) : -9223372036854775808 ≤ wrap64 x ∧ wrap64 x ≤ 9223372036854775807 := by
  unfold wrap64
  omega

theorem u64_range (x : Int) : 0 ≤ IntKind.u64.wrap x ∧ IntKind.u64.wrap x < 18446744073709551616 := by
  rw [IntKind.wrap_u64]
  omega
end Go.Proofs.YbulkiugDoor
