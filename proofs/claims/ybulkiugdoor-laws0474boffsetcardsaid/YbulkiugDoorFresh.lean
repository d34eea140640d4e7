/-
  full (8) on a fresh clock (both words at the least int64), and the walk of LawS0474BFresh (3).
-/
import Derived.Test.YbulkiugDoorFull7
namespace Go.Proofs.YbulkiugDoor
open Go.RowKit

theorem fresh_N (secs n after M : Int) (h0 : 0 ≤ n) (h1 : n < 1000000000) (h2 : 0 ≤ secs) (h3 : secs < 4294967296) (hM : wrap64 (secs * 1000000000 + n - after) = M) :
    IntKind.u64.wrap (wrap64 (after + M)) = secs * 1000000000 + n := by
  rw [IntKind.wrap_u64, ← hM]
  unfold wrap64
  omega

theorem fresh_stamp (secs n : Int) (h0 : 0 ≤ n) (h1 : n < 1000000000) :
    stamp ((secs * 1000000000 + n) / 1000000000) ((secs * 1000000000 + n) % 1000000000) = stamp secs n := by
  rw [show (secs * 1000000000 + n) / 1000000000 = secs by omega, show (secs * 1000000000 + n) % 1000000000 = n by omega]

theorem full_fresh (c k t a B : Nat) (n secs after before M D : Int) (ad : Addr) (w : World)
    (h0 : 0 ≤ n) (h1 : n < 1000000000) (h2 : 0 ≤ secs) (h3 : secs < 4294967296)
    (hnow : w.cell? ⟨c, 0, none⟩ = some (.func (.func 7) #[] #[.pointer (some ⟨k, 0, none⟩), .pointer (some ⟨t, 0, none⟩), .pointer (some ⟨a, 0, none⟩)]))
    (hH : Held w c k a (-9223372036854775808) (-9223372036854775808) 0 after ad) (hkf : w.frozen? ⟨k, 0, none⟩ = false) (ht : TimeAt w t n (59926608000 + secs))
    (lc : c < w.heap.size) (lk : k < w.heap.size) (lt : t < w.heap.size) (la : a < w.heap.size) (hck : c ≠ k) (hkt : k ≠ t) (hka : k ≠ a) (hca : c ≠ a) (hB : 0 < B) (bc : B ≤ c) (bk : B ≤ k)
    (hM : wrap64 (secs * 1000000000 + n - after) = M) (hD : wrap64 (after - before) = D) :
    Calls Ybad.prog 8 #[.pointer (some ⟨c, 0, none⟩), .int .i64 before] w fun e w' => e = .returned (.tuple #[.int .u64 (stamp secs n), .nilIface]) ∧ Held w' c k a (if D ≤ 10000 then after else -9223372036854775808) M 1 after ad ∧ Below B w w' := by
  have hN := fresh_N secs n after M h0 h1 h2 h3 hM
  have hX : wrap64 (-9223372036854775808 - 10000) = 9223372036854765808 := by unfold wrap64; omega
  have hr := wrap64_range (secs * 1000000000 + n - after)
  rw [hM] at hr
  rw [← fresh_stamp secs n h0 h1]
  by_cases hm : M ≤ -9223372036854775808
  · obtain rfl : M = -9223372036854775808 := by omega
    by_cases hd : D ≤ 10000
    · rw [if_pos hd]
      exact Clo7.full_drop_in c k t a B n secs after before _ _ _ D _ _ ad w h0 h1 h2 h3 hnow hH hkf ht lc lk lt la hck hkt hka hca hB bc bk hM hD hX hN (by omega) (by omega) hm (by omega) hd (by omega)
    · rw [if_neg hd]
      exact Clo7.full_keepF2_in c k t a B n secs after before _ _ _ D _ _ ad w h0 h1 h2 h3 hnow hH hkf ht lc lk lt la hck hkt hka hca hB bc bk hM hD hX hN (by omega) (by omega) hm (by omega) (by omega) (by omega)
  · by_cases hd : D ≤ 10000
    · rw [if_pos hd]
      exact Clo7.full_raiseT_in c k t a B n secs after before _ _ _ D _ _ ad w h0 h1 h2 h3 hnow hH hkf ht lc lk lt la hck hkt hka hca hB bc bk hM hD hX hN (by omega) (by omega) (by omega) hd (by omega)
    · rw [if_neg hd]
      exact Clo7.full_raiseF_in c k t a B n secs after before _ _ _ D _ _ ad w h0 h1 h2 h3 hnow hH hkf ht lc lk lt la hck hkt hka hca hB bc bk hM hD hX hN (by omega) (by omega) (by omega) (by omega) (by omega)
end Go.Proofs.YbulkiugDoor
