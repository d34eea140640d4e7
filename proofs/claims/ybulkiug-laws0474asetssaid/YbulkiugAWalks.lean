/-
  The walks of LawS0474ASets (function 3) and LawS0474ALastWins (function 4).
-/
import Derived.Test.YbulkiugRows
import Derived.WalkKit
import Derived.Laws.EntriesVeiled
namespace Go.Proofs.Ybulkiug
open Go.RowKit

/-- 'opt == nil' of a function value that was made -/
theorem eql_func_nil (fn : Fn) (first captured : Array Value) (w : World) : (binOp .eql 31 (.func fn first captured) .nilFunc).run Yba.prog w = .ok (.bool false) w := by kernel_rfl
/-- 'o.source == nil', 'o.keep == nil' -/
theorem eql_nil_nil26 (w : World) : (binOp .eql 26 .nilFunc .nilFunc).run Yba.prog w = .ok (.bool true) w := by kernel_rfl
theorem eql_nil_nil27 (w : World) : (binOp .eql 27 .nilFunc .nilFunc).run Yba.prog w = .ok (.bool true) w := by kernel_rfl

set_option maxRecDepth 100000 in
set_option maxHeartbeats 400000 in
theorem withMaxWait_any (d : Int) (w : World) :
    Calls Yba.prog 6 #[.int .i64 d] w fun e w' => e = .returned (.func (.func 11) #[] #[.pointer (some ⟨w.heap.size, 0, none⟩)]) ∧ w' = w.alloc (.cells #[.int .i64 d] 23) := by
  go_enter Yba.func6, Yba.ntmps6
  go_wp2
  go_ret
  exact ⟨rfl, rfl⟩

set_option maxRecDepth 100000 in
set_option maxHeartbeats 400000 in
theorem set_any (b c : Nat) (d : Int) (v : Value) (w : World) (hc : w.cell? ⟨c, 0, none⟩ = some (.int .i64 d)) (hb : w.cell? ⟨b, 2, none⟩ = some v) (hf : w.frozen? ⟨b, 2, none⟩ = false) :
    Calls Yba.prog 11 #[.pointer (some ⟨b, 0, none⟩), .pointer (some ⟨c, 0, none⟩)] w fun e w' => e = .returned (.tuple #[]) ∧ w' = w.setCell ⟨b, 2, none⟩ (.int .i64 d) := by
  go_enter Yba.func11, Yba.ntmps11
  go_wp2
  go_end0
  exact ⟨rfl, rfl⟩

set_option maxRecDepth 100000 in
set_option maxHeartbeats 1000000 in
theorem sets_walk (a0 : Int) (a1 : Int) (a2 : Int) (a3 : Int) (a4 : Bool) (a5 : Int) (w : World) :
    Calls Yba.prog 3 #[.int .i64 a0, .int .i64 a1, .int .i64 a2, .int .u64 a3, .bool a4, .int .i64 a5] w fun e w' => e = .returned (.bool true) ∧ Grown w w' := by
  have e1 := eql_func_nil
  have e2 := eql_nil_nil26
  have e3 := eql_nil_nil27
  go_enter Yba.func3, Yba.ntmps3
  go_wp2_with (go_at_call 6; refine (withMaxWait_any _ _).mono ?_; rintro e w' ⟨rfl, rfl⟩)
  refine (set_any w.heap.size (w.heap.size + 1) a0 (.int .i64 a1) _ (by go_simp) (by go_simp) (by go_simp)).mono ?_
  rintro e w' ⟨rfl, rfl⟩
  go_wp2
  go_ret
  exact ⟨rfl, by repeat (first | exact Grown.refl _ | apply Grown.drew | apply Grown.alloc)⟩

set_option maxRecDepth 100000 in
set_option maxHeartbeats 1000000 in
theorem wins_walk (a0 : Int) (a1 : Int) (a2 : Int) (w : World) :
    Calls Yba.prog 4 #[.int .i64 a0, .int .i64 a1, .int .i64 a2] w fun e w' => e = .returned (.bool true) ∧ Grown w w' := by
  have e1 := eql_func_nil
  go_enter Yba.func4, Yba.ntmps4
  go_wp2_with (go_at_call 6; refine (withMaxWait_any _ _).mono ?_; rintro e w' ⟨rfl, rfl⟩)
  refine (set_any w.heap.size (w.heap.size + 1) a0 (.int .i64 0) _ (by go_simp) (by go_simp) (by go_simp)).mono ?_
  rintro e w' ⟨rfl, rfl⟩
  go_wp2_with fail
  refine (set_any w.heap.size (w.heap.size + 1 + 1) a1 (.int .i64 a0) _ (by go_simp) (by go_simp) (by go_simp)).mono ?_
  rintro e w' ⟨rfl, rfl⟩
  go_wp2_with fail
  refine (set_any w.heap.size (w.heap.size + 1) a0 (.int .i64 a1) _ (by go_simp) (by go_simp) (by go_simp)).mono ?_
  rintro e w' ⟨rfl, rfl⟩
  go_wp2
  go_ret
  exact ⟨rfl, by repeat (first | exact Grown.refl _ | apply Grown.drew | apply Grown.alloc)⟩
end Go.Proofs.Ybulkiug
