/-
  sync/atomic.Int64's Store (11), Load (9), CompareAndSwap (15) by their contracts, one goroutine; ntpStamp (24); the two closures (7, 10); newWallClock (6).
-/
import Derived.Test.YbulkiugDoorBtime
import Derived.Laws.EntriesVeiled
namespace Go.Proofs.YbulkiugDoor
open Go.RowKit

set_option maxHeartbeats 400000 in
theorem store_any (b o : Nat) (x : Int) (u : Value) (w : World) (hc : w.cell? ⟨b, o, none⟩ = some u) (hz : w.frozen? ⟨b, o, none⟩ = false) :
    Calls Ybad.prog 11 #[.pointer (some ⟨b, o, none⟩), .int .i64 x] w fun e w' => e = .returned (.tuple #[]) ∧ w' = w.setCell ⟨b, o, none⟩ (.int .i64 x) := by
  have hs := run_call_store (P := Ybad.prog) Ybad.func18 (by kernel_rfl) (by kernel_rfl) (by kernel_rfl) (by kernel_rfl) (k := .i64) (y := x) hc hz
  go_enter Ybad.func11, Ybad.ntmps11
  go_wp2
  go_end0
  exact ⟨rfl, rfl⟩

set_option maxHeartbeats 400000 in
theorem load_any (b o : Nat) (x : Int) (w : World) (hc : w.cell? ⟨b, o, none⟩ = some (.int .i64 x)) :
    Calls Ybad.prog 9 #[.pointer (some ⟨b, o, none⟩)] w fun e w' => e = .returned (.int .i64 x) ∧ w' = w := by
  have hs := run_call_load (P := Ybad.prog) Ybad.func17 (by kernel_rfl) (by kernel_rfl) (by kernel_rfl) .i64 (by kernel_rfl) hc
  go_enter Ybad.func9, Ybad.ntmps9
  go_wp2
  go_ret
  exact ⟨rfl, rfl⟩

set_option maxHeartbeats 400000 in
theorem cas_hit (b o : Nat) (x y : Int) (w : World) (hc : w.cell? ⟨b, o, none⟩ = some (.int .i64 x)) (hz : w.frozen? ⟨b, o, none⟩ = false) :
    Calls Ybad.prog 15 #[.pointer (some ⟨b, o, none⟩), .int .i64 x, .int .i64 y] w fun e w' => e = .returned (.bool true) ∧ w' = w.setCell ⟨b, o, none⟩ (.int .i64 y) := by
  have hs := run_call_cas_hit (P := Ybad.prog) Ybad.func25 (by kernel_rfl) (by kernel_rfl) (by kernel_rfl) .i64 (by kernel_rfl) (y := y) hc hz
  go_enter Ybad.func15, Ybad.ntmps15
  go_wp2
  go_ret
  exact ⟨rfl, rfl⟩

set_option maxHeartbeats 400000 in
theorem cas_miss (b o : Nat) (x v y : Int) (w : World) (hc : w.cell? ⟨b, o, none⟩ = some (.int .i64 x)) (hz : w.frozen? ⟨b, o, none⟩ = false) (hne : ¬ x = v) :
    Calls Ybad.prog 15 #[.pointer (some ⟨b, o, none⟩), .int .i64 v, .int .i64 y] w fun e w' => e = .returned (.bool false) ∧ w' = w := by
  have hs := run_call_cas_miss (P := Ybad.prog) Ybad.func25 (by kernel_rfl) (by kernel_rfl) (by kernel_rfl) .i64 (by kernel_rfl) (o := v) (y := y) hc hz hne
  go_enter Ybad.func15, Ybad.ntmps15
  go_wp2
  go_ret
  exact ⟨rfl, rfl⟩

/-- the stamp of sec seconds and nsec nanoseconds, as Go's words reckon it -/
def stamp (sec nsec : Int) : Int := bits .or .u64 (IntKind.u64.wrap (sec * 4294967296)) (IntKind.u64.wrap ((IntKind.u64.wrap (nsec * 4294967296)).tdiv 1000000000))

set_option maxHeartbeats 400000 in
theorem ntpStamp_any (sec nsec : Int) (w : World) :
    Calls Ybad.prog 24 #[.int .u64 sec, .int .u64 nsec] w fun e w' => e = .returned (.int .u64 (stamp sec nsec)) ∧ w' = w := by
  go_enter Ybad.func24, Ybad.ntmps24
  go_wp2
  go_ret
  exact ⟨rfl, rfl⟩

set_option maxHeartbeats 400000 in
theorem clo7_any (k t a : Nat) (n s after : Int) (w : World) (hk : w.cell? ⟨k, 0, none⟩ = some (.int .i64 0)) (hkf : w.frozen? ⟨k, 0, none⟩ = false) (ht : TimeAt w t n s) (ha : w.cell? ⟨a, 0, none⟩ = some (.int .i64 after)) (hkt : k ≠ t) (hka : k ≠ a)
    (lt : t < w.heap.size) (la : a < w.heap.size) (lk : k < w.heap.size) :
    Calls Ybad.prog 7 #[.pointer (some ⟨k, 0, none⟩), .pointer (some ⟨t, 0, none⟩), .pointer (some ⟨a, 0, none⟩)] w fun e w' => e = .returned (.tuple #[.agg #[.int .u64 n, .int .i64 s, .pointer none], .int .i64 after]) ∧ w' = ((w.setCell ⟨k, 0, none⟩ (.int .i64 1)).alloc (.cells #[.int .u64 n, .int .i64 s, .pointer none] 26)).drew := by
  obtain ⟨c0, c1, c2, f0, f1, f2⟩ := ht
  go_enter Ybad.func7, Ybad.ntmps7
  go_wp2
  go_region
  go_wp2
  exact bodyPost_ret (v := .tuple #[.agg #[.int .u64 n, .int .i64 s, .pointer none], .int .i64 after]) (by simp [results, Ybad.results7, go_sem]) rfl ⟨rfl, rfl⟩

set_option maxHeartbeats 400000 in
theorem clo10_any (k t a : Nat) (n s after : Int) (w : World) (hk : w.cell? ⟨k, 0, none⟩ = some (.int .i64 0)) (hkf : w.frozen? ⟨k, 0, none⟩ = false) (ht : TimeAt w t n s) (ha : w.cell? ⟨a, 0, none⟩ = some (.int .i64 after)) (hkt : k ≠ t) (hka : k ≠ a)
    (lt : t < w.heap.size) (la : a < w.heap.size) (lk : k < w.heap.size) :
    Calls Ybad.prog 10 #[.pointer (some ⟨k, 0, none⟩), .pointer (some ⟨t, 0, none⟩), .pointer (some ⟨a, 0, none⟩)] w fun e w' => e = .returned (.tuple #[.agg #[.int .u64 n, .int .i64 s, .pointer none], .int .i64 after]) ∧ w' = ((w.setCell ⟨k, 0, none⟩ (.int .i64 1)).alloc (.cells #[.int .u64 n, .int .i64 s, .pointer none] 26)).drew := by
  obtain ⟨c0, c1, c2, f0, f1, f2⟩ := ht
  go_enter Ybad.func10, Ybad.ntmps10
  go_wp2
  go_region
  go_wp2
  exact bodyPost_ret (v := .tuple #[.agg #[.int .u64 n, .int .i64 s, .pointer none], .int .i64 after]) (by simp [results, Ybad.results10, go_sem]) rfl ⟨rfl, rfl⟩

set_option maxHeartbeats 400000 in
theorem newWall_any (f : Fn) (first captured : Array Value) (w : World) :
    Calls Ybad.prog 6 #[.func f first captured, .nilFunc] w fun e w' => e = .returned (.pointer (some ⟨w.heap.size, 0, none⟩)) ∧
      w' = w.alloc (.cells #[.func f first captured, .nilFunc, .int .i64 (-9223372036854775808), .int .i64 (-9223372036854775808)] 43) := by
  go_enter Ybad.func6, Ybad.ntmps6
  go_wp2_with fail
  refine (store_any w.heap.size 2 (-9223372036854775808) (.int .i64 0) _ (by go_simp) (by go_simp)).mono ?_
  rintro e w' ⟨rfl, rfl⟩
  go_wp2_with fail
  refine (store_any w.heap.size 3 (-9223372036854775808) (.int .i64 0) _ (by go_simp) (by go_simp)).mono ?_
  rintro e w' ⟨rfl, rfl⟩
  go_wp2_with fail
  go_ret
  exact ⟨rfl, by simp⟩
end Go.Proofs.YbulkiugDoor
