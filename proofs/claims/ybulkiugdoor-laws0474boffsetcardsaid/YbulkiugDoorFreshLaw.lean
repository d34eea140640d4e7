/-
  The walk of LawS0474BFresh (3).
-/
import Derived.Test.YbulkiugDoorFresh
import Derived.Test.YbulkiugDoorLay
import Derived.Deep.QuietTactic
import Derived.BigQuiet
import Derived.LaidEql
namespace Go.Proofs.YbulkiugDoor
open Go.RowKit

theorem drewN_below {B : Nat} {a w : World} (h : Below B a w) (n : Nat) : Below B a (w.drewN n) := h.trans ⟨rfl, rfl, rfl, Nat.le_refl _, fun _ _ => rfl⟩

theorem want_eq (secs n : Int) (h0 : 0 ≤ n) (h1 : n < 1000000000) (h2 : 0 ≤ secs) (h3 : secs < 4294967296) : bits .or .u64 (secs * 4294967296) (n * 4294967296 / 1000000000) = stamp secs n := by
  have e1 : IntKind.u64.wrap (secs * 4294967296) = secs * 4294967296 := by rw [IntKind.wrap_u64]; omega
  have e2 : IntKind.u64.wrap (n * 4294967296) = n * 4294967296 := by rw [IntKind.wrap_u64]; omega
  have e3 : IntKind.u64.wrap ((n * 4294967296).tdiv 1000000000) = n * 4294967296 / 1000000000 := by rw [Int.tdiv_eq_ediv_of_nonneg (by omega), IntKind.wrap_u64]; omega
  unfold stamp
  rw [e1, e2, e3]

set_option maxRecDepth 100000 in
set_option maxHeartbeats 2000000 in
theorem fresh_in (secs ns after before n M D : Int) (ad : Addr) (w : World) (h0 : 0 ≤ n) (h1 : n < 1000000000) (h2 : 0 ≤ secs) (h3 : secs < 4294967296) (hns : ns % 1000000000 = n) (hns0 : 0 ≤ ns) (hns1 : ns < 4294967296)
    (hM : wrap64 (secs * 1000000000 + n - after) = M) (hD : wrap64 (after - before) = D)
    (hg : w.cell? ⟨0, 0, none⟩ = some (.iface 67 (.pointer (some ad)))) (hz : 0 < w.heap.size) :
    Calls Ybad.prog 3 #[.int .u32 secs, .int .u32 ns, .bool false, .int .i64 after, .int .i64 before] w fun e w' => e = .returned (.bool true) ∧ Below w.heap.size w w' := by
  have hw := want_eq secs n h0 h1 h2 h3
  go_enter Ybad.func3, Ybad.ntmps3
  go_wp2_with fail
  refine (btime_in secs n _ h2 h3 h0 h1).mono ?_
  rintro e w1 ⟨rfl, hb1⟩
  have ha1 : w1.cell? ⟨w.heap.size, 0, none⟩ = some (.int .i64 after) := (hb1.cell (p := ⟨w.heap.size, 0, none⟩) (by simp)).trans (by go_simp)
  have hg1 : w1.cell? ⟨0, 0, none⟩ = some (.iface 67 (.pointer (some ad))) := (hb1.cell (p := ⟨0, 0, none⟩) (by simp)).trans (by go_simp)
  have hz1 : w.heap.size < w1.heap.size := by have := hb1.size; simp at this; omega
  have B1 : Below w.heap.size w w1 := ((Below.refl _ _).alloc (Nat.le_refl _) _).trans (hb1.mono (by simp))
  clear hb1 hg
  go_wp2_with fail
  refine (newWall_any _ _ _ _).mono ?_
  rintro e w2 ⟨rfl, rfl⟩
  go_wp2_with fail
  have W0 := laid_now w1 (.func (.func 7) #[] #[.pointer (some ⟨w1.heap.size + 1, 0, none⟩), .pointer (some ⟨w1.heap.size, 0, none⟩), .pointer (some ⟨w.heap.size, 0, none⟩)]) n (59926608000 + secs) (-9223372036854775808) (-9223372036854775808)
  have W1 := laid_held w1 (.func (.func 7) #[] #[.pointer (some ⟨w1.heap.size + 1, 0, none⟩), .pointer (some ⟨w1.heap.size, 0, none⟩), .pointer (some ⟨w.heap.size, 0, none⟩)]) n (59926608000 + secs) (-9223372036854775808) (-9223372036854775808) after w.heap.size ad hz1 ha1 hg1
  have W2 := laid_free w1 (.func (.func 7) #[] #[.pointer (some ⟨w1.heap.size + 1, 0, none⟩), .pointer (some ⟨w1.heap.size, 0, none⟩), .pointer (some ⟨w.heap.size, 0, none⟩)]) n (59926608000 + secs) (-9223372036854775808) (-9223372036854775808)
  have W3 := laid_time w1 (.func (.func 7) #[] #[.pointer (some ⟨w1.heap.size + 1, 0, none⟩), .pointer (some ⟨w1.heap.size, 0, none⟩), .pointer (some ⟨w.heap.size, 0, none⟩)]) n (59926608000 + secs) (-9223372036854775808) (-9223372036854775808)
  have W4 := laidClock_size w1 (.func (.func 7) #[] #[.pointer (some ⟨w1.heap.size + 1, 0, none⟩), .pointer (some ⟨w1.heap.size, 0, none⟩), .pointer (some ⟨w.heap.size, 0, none⟩)]) n (59926608000 + secs) (-9223372036854775808) (-9223372036854775808)
  have W5 := laid_below B1 (by omega) (.func (.func 7) #[] #[.pointer (some ⟨w1.heap.size + 1, 0, none⟩), .pointer (some ⟨w1.heap.size, 0, none⟩), .pointer (some ⟨w.heap.size, 0, none⟩)]) n (59926608000 + secs) (-9223372036854775808) (-9223372036854775808)
  refine (full_fresh (w1.heap.size + 1 + 1) (w1.heap.size + 1) w1.heap.size w.heap.size w.heap.size n secs after before M D ad (laidClock w1 _ n (59926608000 + secs) _ _) h0 h1 h2 h3 W0 W1 W2 W3 (by omega) (by omega) (by omega) (by omega) (by omega) (by omega) (by omega) (by omega) hz (by omega) (by omega) hM hD).mono ?_
  rintro e w3 ⟨rfl, H3, hb3⟩
  have B3 : Below w.heap.size w w3 := W5.trans hb3
  have hz3 : w1.heap.size + 3 ≤ w3.heap.size := by have := hb3.size; omega
  clear hb3 B1 ha1 hg1 W0 W1 W2 W3 W4 W5
  obtain ⟨c1, -, c3, -, c5, c6, c7⟩ := H3
  go_wp2_with fail
  go_quiet ((go_at_call 9; exact Calls.quiet_of_same (load_any _ _ _ _ c3)))
  go_wp2_with fail
  · rw [if_pos (by assumption)] at c1
    refine (load_any _ _ after _ (by simpa using c1)).mono ?_
    rintro e w4 ⟨rfl, rfl⟩
    go_wp2_with fail
    go_ret
    exact ⟨by simp, drewN_below B3 _⟩
  · rw [if_neg (by omega)] at c1
    refine (load_any _ _ (-9223372036854775808) _ (by simpa using c1)).mono ?_
    rintro e w4 ⟨rfl, rfl⟩
    go_wp2_with fail
    go_ret
    exact ⟨by simp, drewN_below B3 _⟩

theorem comp67 : (Ybad.prog.info? 67).map (·.comparable) = some true := by kernel_rfl
theorem size91 : (Ybad.prog.info? 91).map (·.size) = some 1 := by kernel_rfl

/-- 'err == ErrOutsideEra' where both are the variable's own value -/
theorem eql_same (ad : Addr) (w : World) : (binOp .eql 33 (.iface 67 (.pointer (some ad))) (.iface 67 (.pointer (some ad)))).run Ybad.prog w = .ok (.bool true) w := by
  obtain ⟨i, hi, hcmp⟩ := Option.map_eq_some_iff.1 comp67
  obtain ⟨j, hj, _⟩ := Option.map_eq_some_iff.1 size91
  exact run_eql_iface_ptr_same w ad Ybad.underlying33 Ybad.underlying67 hi hcmp hj

set_option maxRecDepth 100000 in
set_option maxHeartbeats 2000000 in
theorem fresh_out (secs ns after before n : Int) (ad : Addr) (w : World) (h0 : 0 ≤ n) (h1 : n < 1000000000) (h2 : 0 ≤ secs) (h3 : secs < 4294967296) (hns : ns % 1000000000 = n) (hns0 : 0 ≤ ns) (hns1 : ns < 4294967296)
    (hg : w.cell? ⟨0, 0, none⟩ = some (.iface 67 (.pointer (some ad)))) (hz : 0 < w.heap.size) :
    Calls Ybad.prog 3 #[.int .u32 secs, .int .u32 ns, .bool true, .int .i64 after, .int .i64 before] w fun e w' => e = .returned (.bool true) ∧ Below w.heap.size w w' := by
  have heq := fun (wx : World) => eql_same ad wx
  go_enter Ybad.func3, Ybad.ntmps3
  go_wp2_with fail
  refine (btime_out secs n _ h2 h3 h0 h1).mono ?_
  rintro e w1 ⟨rfl, hb1⟩
  have ha1 : w1.cell? ⟨w.heap.size, 0, none⟩ = some (.int .i64 after) := (hb1.cell (p := ⟨w.heap.size, 0, none⟩) (by simp)).trans (by go_simp)
  have hg1 : w1.cell? ⟨0, 0, none⟩ = some (.iface 67 (.pointer (some ad))) := (hb1.cell (p := ⟨0, 0, none⟩) (by simp)).trans (by go_simp)
  have hz1 : w.heap.size < w1.heap.size := by have := hb1.size; simp at this; omega
  have B1 : Below w.heap.size w w1 := ((Below.refl _ _).alloc (Nat.le_refl _) _).trans (hb1.mono (by simp))
  clear hb1 hg
  go_wp2_with fail
  refine (newWall_any _ _ _ _).mono ?_
  rintro e w2 ⟨rfl, rfl⟩
  go_wp2_with fail
  have W0 := laid_now w1 (.func (.func 7) #[] #[.pointer (some ⟨w1.heap.size + 1, 0, none⟩), .pointer (some ⟨w1.heap.size, 0, none⟩), .pointer (some ⟨w.heap.size, 0, none⟩)]) n (59926608000 + secs + 4294967296) (-9223372036854775808) (-9223372036854775808)
  have W1 := laid_held w1 (.func (.func 7) #[] #[.pointer (some ⟨w1.heap.size + 1, 0, none⟩), .pointer (some ⟨w1.heap.size, 0, none⟩), .pointer (some ⟨w.heap.size, 0, none⟩)]) n (59926608000 + secs + 4294967296) (-9223372036854775808) (-9223372036854775808) after w.heap.size ad hz1 ha1 hg1
  have W2 := laid_free w1 (.func (.func 7) #[] #[.pointer (some ⟨w1.heap.size + 1, 0, none⟩), .pointer (some ⟨w1.heap.size, 0, none⟩), .pointer (some ⟨w.heap.size, 0, none⟩)]) n (59926608000 + secs + 4294967296) (-9223372036854775808) (-9223372036854775808)
  have W3 := laid_time w1 (.func (.func 7) #[] #[.pointer (some ⟨w1.heap.size + 1, 0, none⟩), .pointer (some ⟨w1.heap.size, 0, none⟩), .pointer (some ⟨w.heap.size, 0, none⟩)]) n (59926608000 + secs + 4294967296) (-9223372036854775808) (-9223372036854775808)
  have W4 := laidClock_size w1 (.func (.func 7) #[] #[.pointer (some ⟨w1.heap.size + 1, 0, none⟩), .pointer (some ⟨w1.heap.size, 0, none⟩), .pointer (some ⟨w.heap.size, 0, none⟩)]) n (59926608000 + secs + 4294967296) (-9223372036854775808) (-9223372036854775808)
  have W5 := laid_below B1 (by omega) (.func (.func 7) #[] #[.pointer (some ⟨w1.heap.size + 1, 0, none⟩), .pointer (some ⟨w1.heap.size, 0, none⟩), .pointer (some ⟨w.heap.size, 0, none⟩)]) n (59926608000 + secs + 4294967296) (-9223372036854775808) (-9223372036854775808)
  refine (Clo7.full_era (w1.heap.size + 1 + 1) (w1.heap.size + 1) w1.heap.size w.heap.size w.heap.size n (59926608000 + secs + 4294967296) after before (-9223372036854775808) (-9223372036854775808) ad (laidClock w1 _ n (59926608000 + secs + 4294967296) _ _) h0 h1 (by omega) (by omega) W0 W1 W2 W3 (by omega) (by omega) (by omega) (by omega) (by omega) (by omega) (by omega) hz (by omega) (by omega)).mono ?_
  rintro e w3 ⟨rfl, H3, hb3⟩
  have B3 : Below w.heap.size w w3 := W5.trans hb3
  have hz3 : w1.heap.size + 3 ≤ w3.heap.size := by have := hb3.size; omega
  clear hb3 B1 ha1 hg1 W0 W1 W2 W3 W4 W5
  obtain ⟨c1, -, c3, -, c5, c6, c7⟩ := H3
  go_wp2_with fail
  refine (load_any _ _ (-9223372036854775808) _ c3).mono ?_
  rintro e w4 ⟨rfl, rfl⟩
  go_wp2_with fail
  refine (load_any _ _ (-9223372036854775808) _ c1).mono ?_
  rintro e w5 ⟨rfl, rfl⟩
  go_wp2_with fail
  go_ret
  exact ⟨by simp, B3⟩

/-- for every input -/
theorem fresh_any (secs ns after before : Int) (out : Bool) (ad : Addr) (w : World) (h2 : 0 ≤ secs) (h3 : secs < 4294967296) (hns0 : 0 ≤ ns) (hns1 : ns < 4294967296)
    (hg : w.cell? ⟨0, 0, none⟩ = some (.iface 67 (.pointer (some ad)))) (hz : 0 < w.heap.size) :
    Calls Ybad.prog 3 #[.int .u32 secs, .int .u32 ns, .bool out, .int .i64 after, .int .i64 before] w fun e w' => e = .returned (.bool true) ∧ Below w.heap.size w w' := by
  cases out
  · exact fresh_in secs ns after before _ _ _ ad w (by omega) (by omega) h2 h3 rfl hns0 hns1 rfl rfl hg hz
  · exact fresh_out secs ns after before _ ad w (by omega) (by omega) h2 h3 rfl hns0 hns1 hg hz

end Go.Proofs.YbulkiugDoor
