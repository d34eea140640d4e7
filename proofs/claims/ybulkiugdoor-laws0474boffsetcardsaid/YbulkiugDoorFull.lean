/-
  FromTime (13), derived (16).
-/
import Derived.Test.YbulkiugDoorParts
namespace Go.Proofs.YbulkiugDoor
open Go.RowKit

set_option maxHeartbeats 400000 in
theorem fromTime_in (n secs : Int) (w : World) (h0 : 0 ≤ n) (h1 : n < 1000000000) (h2 : 0 ≤ secs) (h3 : secs < 4294967296) :
    Calls Ybad.prog 13 #[.agg #[.int .u64 n, .int .i64 (59926608000 + secs), .pointer none]] w fun e w' => e = .returned (.tuple #[.int .u64 (stamp secs n), .nilIface]) ∧ Below w.heap.size w w' := by
  go_enter Ybad.func13, Ybad.ntmps13
  go_wp2_with fail
  refine (unix_any n (59926608000 + secs) _ h0 h1 (by omega) (by omega)).mono ?_
  rintro e w' ⟨rfl, rfl⟩
  go_wp2_with fail
  refine (nanosecond_any n (59926608000 + secs) _ h0 h1).mono ?_
  rintro e w' ⟨rfl, rfl⟩
  go_wp2_with fail
  rw [show (59926608000 + secs - 62135596800 + 2208988800 : Int) = secs by omega]
  refine (ntpStamp_any secs n _).mono ?_
  rintro e w' ⟨rfl, rfl⟩
  go_wp2_with fail
  go_ret2
  exact ⟨rfl, (((Below.refl _ _).alloc (Nat.le_refl _) _).alloc (by simp) _).alloc (by simp; omega) _⟩

set_option maxHeartbeats 400000 in
theorem fromTime_out (n s : Int) (a : Addr) (w : World) (h0 : 0 ≤ n) (h1 : n < 1000000000) (h2 : 64221575296 ≤ s) (h3 : s ≤ 100000000000) (hg : w.cell? ⟨0, 0, none⟩ = some (.iface 67 (.pointer (some a)))) (hz : 0 < w.heap.size) :
    Calls Ybad.prog 13 #[.agg #[.int .u64 n, .int .i64 s, .pointer none]] w fun e w' => e = .returned (.tuple #[.int .u64 0, .iface 67 (.pointer (some a))]) ∧ Below w.heap.size w w' := by
  go_enter Ybad.func13, Ybad.ntmps13
  go_wp2_with fail
  refine (unix_any n s _ h0 h1 (by omega) (by omega)).mono ?_
  rintro e w' ⟨rfl, rfl⟩
  go_wp2_with fail
  go_region
  go_wp2
  go_ret2
  exact ⟨rfl, (((Below.refl _ _).alloc (Nat.le_refl _) _).alloc (by simp) _).drew⟩

set_option maxHeartbeats 400000 in
theorem derived_any (c : Nat) (m off N : Int) (w : World) (hc : w.cell? ⟨c, 3, none⟩ = some (.int .i64 off)) (hN : IntKind.u64.wrap (wrap64 (m + off)) = N) (h0 : 0 ≤ N) (h1 : N < 18446744073709551616) :
    Calls Ybad.prog 16 #[.pointer (some ⟨c, 0, none⟩), .int .i64 m] w fun e w' => e = .returned (.tuple #[.int .u64 (stamp (N / 1000000000) (N % 1000000000)), .bool (decide (N < 4294967296000000000))]) ∧ w' = w := by
  go_enter Ybad.func16, Ybad.ntmps16
  go_wp2_with fail
  refine (load_any c 3 off _ hc).mono ?_
  rintro e w' ⟨rfl, rfl⟩
  go_wp2_with fail
  refine (ntpStamp_any (N / 1000000000) (N % 1000000000) _).mono ?_
  rintro e w' ⟨rfl, rfl⟩
  go_wp2_with fail
  go_ret2
  exact ⟨rfl, rfl⟩
end Go.Proofs.YbulkiugDoor
