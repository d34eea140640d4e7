/-
  (time.Time).Add (12), Unix (23), Nanosecond (14) of a time without a monotonic reading.
-/
import Derived.Test.YbulkiugDoorTime
namespace Go.Proofs.YbulkiugDoor
open Go.RowKit

set_option maxHeartbeats 400000 in
theorem unix_any (n s : Int) (w : World) (h0 : 0 ≤ n) (h1 : n < 1000000000) (hs0 : 0 ≤ s) (hs1 : s ≤ 100000000000) :
    Calls Ybad.prog 23 #[.agg #[.int .u64 n, .int .i64 s, .pointer none]] w fun e w' => e = .returned (.int .i64 (s - 62135596800)) ∧ w' = w.alloc (.cells #[.int .u64 n, .int .i64 s, .pointer none] 26) := by
  go_enter Ybad.func23, Ybad.ntmps23
  go_wp2_with (go_at_call 27; refine (unixSec_any w.heap.size n s _ h0 h1 hs0 hs1 (by go_simp) (by go_simp)).mono ?_; rintro e w' ⟨rfl, rfl⟩)
  go_ret
  exact ⟨rfl, rfl⟩

set_option maxHeartbeats 400000 in
theorem nanosecond_any (n s : Int) (w : World) (h0 : 0 ≤ n) (h1 : n < 1000000000) :
    Calls Ybad.prog 14 #[.agg #[.int .u64 n, .int .i64 s, .pointer none]] w fun e w' => e = .returned (.int .i64 n) ∧ w' = w.alloc (.cells #[.int .u64 n, .int .i64 s, .pointer none] 26) := by
  go_enter Ybad.func14, Ybad.ntmps14
  go_wp2_with (go_at_call 20; refine (nsec_any w.heap.size n _ h0 h1 (by go_simp)).mono ?_; rintro e w' ⟨rfl, rfl⟩)
  go_ret
  exact ⟨rfl, rfl⟩

set_option maxHeartbeats 1000000 in
theorem add_any (n s d : Int) (w : World) (h0 : 0 ≤ n) (h1 : n < 1000000000) (hs0 : 0 ≤ s) (hs1 : s ≤ 100000000000) (hd0 : 0 ≤ d) (hd1 : d ≤ 9000000000000000000) (hnd : n + d % 1000000000 < 1000000000) :
    Calls Ybad.prog 12 #[.agg #[.int .u64 n, .int .i64 s, .pointer none], .int .i64 d] w fun e w' => e = .returned (.agg #[.int .u64 (n + d % 1000000000), .int .i64 (s + d / 1000000000), .pointer none]) ∧ Below w.heap.size w w' := by
  have hq0 : 0 ≤ d / 1000000000 := by omega
  have hq1 : d / 1000000000 ≤ 9000000000 := by omega
  have hr0 : 0 ≤ d % 1000000000 := by omega
  have hr1 : d % 1000000000 < 1000000000 := by omega
  have ha := andNot_low n h0 (by omega)
  have ho := or_zero (n + d % 1000000000) (by omega) (by omega)
  have hh := and_high (n + d % 1000000000) (by omega) (by omega)
  go_enter Ybad.func12, Ybad.ntmps12
  go_wp2_with fail
  refine (nsec_any w.heap.size n _ h0 h1 (by go_simp)).mono ?_
  rintro e w' ⟨rfl, rfl⟩
  go_wp2_with fail
  refine (addSec_any w.heap.size (n + d % 1000000000) s (d / 1000000000) _ (by omega) hnd hs0 hs1 hq0 (by omega) (by go_simp) (by go_simp) (by go_simp)).mono ?_
  rintro e w' ⟨rfl, rfl⟩
  go_wp2
  refine bodyPost_ret (v := .agg #[.int .u64 (n + d % 1000000000), .int .i64 (s + d / 1000000000), .pointer none]) (by simp [results, Ybad.results12, go_sem]) rfl ⟨rfl, ?_⟩
  exact ((Below.refl _ _).alloc (Nat.le_refl _) _).alloc (by simp) _
end Go.Proofs.YbulkiugDoor
