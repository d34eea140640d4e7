/-
  The plain arithmetic of LawS0474CNote: the reading's whole unit is the high word's low 42 bits.
-/
import Derived.Test.YbulkiugRows
import Derived.WalkKit
namespace Go.Proofs.Ybulkiug

theorem coarse_eq (hi : Int) (h0 : 0 ≤ hi) (h1 : hi < 18446744073709551616) : bits .and .u64 hi 4398046511103 = hi % 4398046511104 := by
  obtain ⟨a, rfl⟩ := Int.eq_ofNat_of_zero_le h0
  have h := bits_and_u64_nat a 4398046511103 (by omega) (by omega)
  have e : a &&& 4398046511103 = a % 4398046511104 := Nat.and_two_pow_sub_one_eq_mod a 42
  rw [e] at h
  exact h.trans (by omega)

theorem low_eq (lo : Int) (h0 : 0 ≤ lo) (h1 : lo < 4294967296) : bits .and .u64 lo 4194303 = lo % 4194304 := by
  obtain ⟨a, rfl⟩ := Int.eq_ofNat_of_zero_le h0
  have h := bits_and_u64_nat a 4194303 (by omega) (by omega)
  have e : a &&& 4194303 = a % 4194304 := Nat.and_two_pow_sub_one_eq_mod a 22
  rw [e] at h
  exact h.trans (by omega)

theorem pt_eq (hi lo : Int) (h0 : 0 ≤ hi) (h2 : 0 ≤ lo) (h3 : lo < 4294967296) :
    bits .or .u64 (IntKind.u64.wrap (hi * 4194304)) (bits .and .u64 lo 4194303) = (hi % 4398046511104) * 4194304 + lo % 4194304 := by
  rw [low_eq lo h2 h3]
  obtain ⟨a, rfl⟩ := Int.eq_ofNat_of_zero_le h0
  obtain ⟨b, rfl⟩ := Int.eq_ofNat_of_zero_le h2
  have e1 : IntKind.u64.wrap ((a : Int) * 4194304) = ((2 ^ 22 * (a % 4398046511104) : Nat) : Int) := by rw [IntKind.wrap_u64]; omega
  have e2 : (b : Int) % 4194304 = ((b % 4194304 : Nat) : Int) := by omega
  rw [e1, e2, bits_or_u64_nat _ _ (by omega) (by omega), ← Nat.two_pow_add_eq_or_of_lt (by omega)]
  omega

theorem pt_div (hi lo : Int) (h0 : 0 ≤ hi) (h1 : hi < 18446744073709551616) (h2 : 0 ≤ lo) (h3 : lo < 4294967296) :
    ∃ P C : Int, bits .or .u64 (IntKind.u64.wrap (hi * 4194304)) (bits .and .u64 lo 4194303) = P ∧ bits .and .u64 hi 4398046511103 = C ∧ 0 ≤ P ∧ P < 18446744073709551616 ∧ P / 4194304 = C := by
  refine ⟨_, _, pt_eq hi lo h0 h2 h3, coarse_eq hi h0 h1, ?_, ?_, ?_⟩ <;> omega
end Go.Proofs.Ybulkiug
