/-
  sync/atomic.Uint64's Store (7), Load (10), Add (13), CompareAndSwap (14) by their contracts, one goroutine; errors.New (8).
-/
import Derived.Test.YbulkiugRows
import Derived.WalkKit
namespace Go.Proofs.Ybulkiug
open Go.RowKit

set_option maxHeartbeats 400000 in
theorem store_any (b o : Nat) (x : Int) (u : Value) (w : World) (hc : w.cell? ⟨b, o, none⟩ = some u) (hz : w.frozen? ⟨b, o, none⟩ = false) :
    Calls Yba.prog 7 #[.pointer (some ⟨b, o, none⟩), .int .u64 x] w fun e w' => e = .returned (.tuple #[]) ∧ w' = w.setCell ⟨b, o, none⟩ (.int .u64 x) := by
  have hs := run_call_store (P := Yba.prog) Yba.func12 (by kernel_rfl) (by kernel_rfl) (by kernel_rfl) (by kernel_rfl) (k := .u64) (y := x) hc hz
  go_enter Yba.func7, Yba.ntmps7
  go_wp2
  go_end0
  exact ⟨rfl, rfl⟩

set_option maxHeartbeats 400000 in
theorem load_any (b o : Nat) (x : Int) (w : World) (hc : w.cell? ⟨b, o, none⟩ = some (.int .u64 x)) :
    Calls Yba.prog 10 #[.pointer (some ⟨b, o, none⟩)] w fun e w' => e = .returned (.int .u64 x) ∧ w' = w := by
  have hs := run_call_load (P := Yba.prog) Yba.func15 (by kernel_rfl) (by kernel_rfl) (by kernel_rfl) .u64 (by kernel_rfl) hc
  go_enter Yba.func10, Yba.ntmps10
  go_wp2
  go_ret
  exact ⟨rfl, rfl⟩

set_option maxHeartbeats 400000 in
theorem add_any (b o : Nat) (x : Int) (w : World) (hc : w.cell? ⟨b, o, none⟩ = some (.int .u64 x)) (hz : w.frozen? ⟨b, o, none⟩ = false) :
    Calls Yba.prog 13 #[.pointer (some ⟨b, o, none⟩), .int .u64 1] w fun e w' => e = .returned (.int .u64 (IntKind.u64.wrap (x + 1))) ∧ w' = w.setCell ⟨b, o, none⟩ (.int .u64 (IntKind.u64.wrap (x + 1))) := by
  have hs := run_call_add (P := Yba.prog) Yba.func16 (by kernel_rfl) (by kernel_rfl) (by kernel_rfl) .u64 (by kernel_rfl) (y := 1) (s := IntKind.u64.wrap (x + 1)) hc hz (by simp [go_sem])
  generalize IntKind.u64.wrap (x + 1) = s at *
  go_enter Yba.func13, Yba.ntmps13
  go_wp2
  go_ret
  exact ⟨rfl, rfl⟩

set_option maxHeartbeats 400000 in
theorem cas_hit (b o : Nat) (x y : Int) (w : World) (hc : w.cell? ⟨b, o, none⟩ = some (.int .u64 x)) (hz : w.frozen? ⟨b, o, none⟩ = false) :
    Calls Yba.prog 14 #[.pointer (some ⟨b, o, none⟩), .int .u64 x, .int .u64 y] w fun e w' => e = .returned (.bool true) ∧ w' = w.setCell ⟨b, o, none⟩ (.int .u64 y) := by
  have hs := run_call_cas_hit (P := Yba.prog) Yba.func17 (by kernel_rfl) (by kernel_rfl) (by kernel_rfl) .u64 (by kernel_rfl) (y := y) hc hz
  go_enter Yba.func14, Yba.ntmps14
  go_wp2
  go_ret
  exact ⟨rfl, rfl⟩

set_option maxHeartbeats 400000 in
theorem cas_miss (b o : Nat) (x v y : Int) (w : World) (hc : w.cell? ⟨b, o, none⟩ = some (.int .u64 x)) (hz : w.frozen? ⟨b, o, none⟩ = false) (hne : ¬ x = v) :
    Calls Yba.prog 14 #[.pointer (some ⟨b, o, none⟩), .int .u64 v, .int .u64 y] w fun e w' => e = .returned (.bool false) ∧ w' = w := by
  have hs := run_call_cas_miss (P := Yba.prog) Yba.func17 (by kernel_rfl) (by kernel_rfl) (by kernel_rfl) .u64 (by kernel_rfl) (o := v) (y := y) hc hz hne
  go_enter Yba.func14, Yba.ntmps14
  go_wp2
  go_ret
  exact ⟨rfl, rfl⟩

set_option maxHeartbeats 400000 in
theorem errNew_any (s : ByteArray) (w : World) :
    Calls Yba.prog 8 #[.string s] w fun e w' => e = .returned (.iface 60 (.pointer (some ⟨w.heap.size, 0, none⟩))) ∧ w' = w.alloc (.cells #[.string s] 62) := by
  go_enter Yba.func8, Yba.ntmps8
  go_wp2
  go_ret
  exact ⟨rfl, rfl⟩
end Go.Proofs.Ybulkiug
