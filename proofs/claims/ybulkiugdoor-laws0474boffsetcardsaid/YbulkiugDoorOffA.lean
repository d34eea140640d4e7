/-
  The walk of LawS0474BOffset (4): case by case.
-/
import Derived.Test.YbulkiugDoorFull10A
import Derived.Test.YbulkiugDoorFull10B
import Derived.Test.YbulkiugDoorLay4
import Derived.Test.YbulkiugDoorFreshLaw
import Derived.LaidEql
namespace Go.Proofs.YbulkiugDoor.Off
open Go.RowKit
set_option linter.unusedVariables false      -- one head for all cases: not every case uses every premise

set_option maxRecDepth 100000 in
set_option maxHeartbeats 2000000 in
theorem off_drop_in (secs ns after g sel d at0 n M bv cur bef X N : Int) (ad : Addr) (w : World) (h0 : 0 ≤ n) (h1 : n < 1000000000) (h2 : 0 ≤ secs) (h3 : secs < 4294967296) (hns : ns % 1000000000 = n) (hns0 : 0 ≤ ns) (hns1 : ns < 4294967296)
    (hg0 : -128 ≤ g) (hg1 : g ≤ 127) (hs0 : 0 ≤ sel) (hs1 : sel ≤ 255) (hd0 : -32768 ≤ d) (hd1 : d ≤ 32767)
    (hM : wrap64 (secs * 1000000000 + n - after) = M) (hbv : ([.int .i64 0, .int .i64 10000, .int .i64 (-10000), .int .i64 1099511627776] : List Value)[(sel % 4).toNat]? = some (.int .i64 bv))
    (hcur : wrap64 (wrap64 (M + bv) + d) = cur) (hbef : wrap64 (after - (10000 + g)) = bef) (HD : Hid (wrap64 (after - bef) = 10000 + g)) (hX : wrap64 (cur - 10000) = X) (hN : IntKind.u64.wrap (wrap64 (after + M)) = N) (hN0 : 0 ≤ N) (hN1 : N < 18446744073709551616)
    (q1 : M ≤ cur) (q2 : M < X) (q3 : g ≤ 0) (q4 : N < 4294967296000000000)
    (hg : w.cell? ⟨0, 0, none⟩ = some (.iface 67 (.pointer (some ad)))) (hz : 0 < w.heap.size) :
    Calls Ybad.prog 4 #[.int .u32 secs, .int .u32 ns, .int .i64 after, .int .i8 g, .int .u8 sel, .int .i16 d, .int .i64 at0] w fun e w' => e = .returned (.bool true) ∧ Below w.heap.size w w' := by
  have hw := want_eq (N / 1000000000) (N % 1000000000) (by omega) (by omega) (by omega) (by omega)
  go_enter Ybad.func4, Ybad.ntmps4
  go_wp2_with fail
  refine (btime_in secs n _ h2 h3 h0 h1).mono ?_
  rintro e w1 ⟨rfl, hb1⟩
  have ha1 : w1.cell? ⟨w.heap.size, 0, none⟩ = some (.int .i64 after) := (hb1.cell (p := ⟨w.heap.size, 0, none⟩) (by simp)).trans (by go_simp)
  have hg1 : w1.cell? ⟨0, 0, none⟩ = some (.iface 67 (.pointer (some ad))) := (hb1.cell (p := ⟨0, 0, none⟩) (by simp)).trans (by go_simp)
  have hz1 : w.heap.size < w1.heap.size := by have := hb1.size; simp at this; omega
  have B1 : Below w.heap.size w w1 := ((Below.refl _ _).alloc (Nat.le_refl _) _).trans (hb1.mono (by simp))
  clear hb1 hg
  go_wp2_with fail
  refine (newWall_any _ _ _ _).mono ?_
  rintro e w2 ⟨rfl, rfl⟩
  go_wp2_with fail
  refine (store_any (w1.heap.size + 1 + 1 + 1) 3 cur (.int .i64 (-9223372036854775808)) _ (by go_simp) (by go_simp)).mono ?_
  rintro e w3 ⟨rfl, rfl⟩
  go_wp2_with fail
  refine (store_any (w1.heap.size + 1 + 1 + 1) 2 at0 (.int .i64 (-9223372036854775808)) _ (by go_simp) (by go_simp)).mono ?_
  rintro e w4 ⟨rfl, rfl⟩
  go_wp2_with fail
  have W0 := laid4_now w1 (.func (.func 10) #[] #[.pointer (some ⟨w1.heap.size + 1 + 1, 0, none⟩), .pointer (some ⟨w1.heap.size, 0, none⟩), .pointer (some ⟨w.heap.size, 0, none⟩)]) n (59926608000 + secs) at0 cur
  have W1 := laid4_held w1 (.func (.func 10) #[] #[.pointer (some ⟨w1.heap.size + 1 + 1, 0, none⟩), .pointer (some ⟨w1.heap.size, 0, none⟩), .pointer (some ⟨w.heap.size, 0, none⟩)]) n (59926608000 + secs) at0 cur after w.heap.size ad hz1 ha1 hg1
  have W2 := laid4_free w1 (.func (.func 10) #[] #[.pointer (some ⟨w1.heap.size + 1 + 1, 0, none⟩), .pointer (some ⟨w1.heap.size, 0, none⟩), .pointer (some ⟨w.heap.size, 0, none⟩)]) n (59926608000 + secs) at0 cur
  have W3 := laid4_time w1 (.func (.func 10) #[] #[.pointer (some ⟨w1.heap.size + 1 + 1, 0, none⟩), .pointer (some ⟨w1.heap.size, 0, none⟩), .pointer (some ⟨w.heap.size, 0, none⟩)]) n (59926608000 + secs) at0 cur
  have W4 := laidClock4_size w1 (.func (.func 10) #[] #[.pointer (some ⟨w1.heap.size + 1 + 1, 0, none⟩), .pointer (some ⟨w1.heap.size, 0, none⟩), .pointer (some ⟨w.heap.size, 0, none⟩)]) n (59926608000 + secs) at0 cur
  have W5 := laid4_below B1 (by omega) (.func (.func 10) #[] #[.pointer (some ⟨w1.heap.size + 1 + 1, 0, none⟩), .pointer (some ⟨w1.heap.size, 0, none⟩), .pointer (some ⟨w.heap.size, 0, none⟩)]) n (59926608000 + secs) at0 cur
  refine (Clo10.full_drop_in (w1.heap.size + 1 + 1 + 1) (w1.heap.size + 1 + 1) w1.heap.size w.heap.size w.heap.size n secs after bef at0 cur M (10000 + g) X N ad (laidClock4 w1 _ n (59926608000 + secs) at0 cur) h0 h1 h2 h3 W0 W1 W2 W3 (by omega) (by omega) (by omega) (by omega) (by omega) (by omega) (by omega) (by omega) hz (by omega) (by omega) hM HD.out hX hN hN0 hN1 q1 q2 (by omega) q4).mono ?_
  rintro e w5 ⟨rfl, H5, hb5⟩
  have B5 : Below w.heap.size w w5 := W5.trans hb5
  have hz5 : w1.heap.size + 4 ≤ w5.heap.size := by have := hb5.size; omega
  clear hb5 B1 ha1 hg1 W0 W1 W2 W3 W4 W5
  obtain ⟨c1, -, c3, -, c5, c6, c7⟩ := H5
  go_wp2_with fail
  refine (load_any _ _ M _ c3).mono ?_
  rintro e w6 ⟨rfl, rfl⟩
  go_wp2_with fail
  refine (load_any _ _ after _ c1).mono ?_
  rintro e w7 ⟨rfl, rfl⟩
  go_wp2_with fail
  go_ret
  exact ⟨by simp, B5⟩

set_option maxRecDepth 100000 in
set_option maxHeartbeats 2000000 in
theorem off_drop_out (secs ns after g sel d at0 n M bv cur bef X N : Int) (ad : Addr) (w : World) (h0 : 0 ≤ n) (h1 : n < 1000000000) (h2 : 0 ≤ secs) (h3 : secs < 4294967296) (hns : ns % 1000000000 = n) (hns0 : 0 ≤ ns) (hns1 : ns < 4294967296)
    (hg0 : -128 ≤ g) (hg1 : g ≤ 127) (hs0 : 0 ≤ sel) (hs1 : sel ≤ 255) (hd0 : -32768 ≤ d) (hd1 : d ≤ 32767)
    (hM : wrap64 (secs * 1000000000 + n - after) = M) (hbv : ([.int .i64 0, .int .i64 10000, .int .i64 (-10000), .int .i64 1099511627776] : List Value)[(sel % 4).toNat]? = some (.int .i64 bv))
    (hcur : wrap64 (wrap64 (M + bv) + d) = cur) (hbef : wrap64 (after - (10000 + g)) = bef) (HD : Hid (wrap64 (after - bef) = 10000 + g)) (hX : wrap64 (cur - 10000) = X) (hN : IntKind.u64.wrap (wrap64 (after + M)) = N) (hN0 : 0 ≤ N) (hN1 : N < 18446744073709551616)
    (q1 : M ≤ cur) (q2 : M < X) (q3 : g ≤ 0) (q4 : 4294967296000000000 ≤ N)
    (hg : w.cell? ⟨0, 0, none⟩ = some (.iface 67 (.pointer (some ad)))) (hz : 0 < w.heap.size) :
    Calls Ybad.prog 4 #[.int .u32 secs, .int .u32 ns, .int .i64 after, .int .i8 g, .int .u8 sel, .int .i16 d, .int .i64 at0] w fun e w' => e = .returned (.bool true) ∧ Below w.heap.size w w' := by
  have heq := fun (wx : World) => eql_same ad wx
  go_enter Ybad.func4, Ybad.ntmps4
  go_wp2_with fail
  refine (btime_in secs n _ h2 h3 h0 h1).mono ?_
  rintro e w1 ⟨rfl, hb1⟩
  have ha1 : w1.cell? ⟨w.heap.size, 0, none⟩ = some (.int .i64 after) := (hb1.cell (p := ⟨w.heap.size, 0, none⟩) (by simp)).trans (by go_simp)
  have hg1 : w1.cell? ⟨0, 0, none⟩ = some (.iface 67 (.pointer (some ad))) := (hb1.cell (p := ⟨0, 0, none⟩) (by simp)).trans (by go_simp)
  have hz1 : w.heap.size < w1.heap.size := by have := hb1.size; simp at this; omega
  have B1 : Below w.heap.size w w1 := ((Below.refl _ _).alloc (Nat.le_refl _) _).trans (hb1.mono (by simp))
  clear hb1 hg
  go_wp2_with fail
  refine (newWall_any _ _ _ _).mono ?_
  rintro e w2 ⟨rfl, rfl⟩
  go_wp2_with fail
  refine (store_any (w1.heap.size + 1 + 1 + 1) 3 cur (.int .i64 (-9223372036854775808)) _ (by go_simp) (by go_simp)).mono ?_
  rintro e w3 ⟨rfl, rfl⟩
  go_wp2_with fail
  refine (store_any (w1.heap.size + 1 + 1 + 1) 2 at0 (.int .i64 (-9223372036854775808)) _ (by go_simp) (by go_simp)).mono ?_
  rintro e w4 ⟨rfl, rfl⟩
  go_wp2_with fail
  have W0 := laid4_now w1 (.func (.func 10) #[] #[.pointer (some ⟨w1.heap.size + 1 + 1, 0, none⟩), .pointer (some ⟨w1.heap.size, 0, none⟩), .pointer (some ⟨w.heap.size, 0, none⟩)]) n (59926608000 + secs) at0 cur
  have W1 := laid4_held w1 (.func (.func 10) #[] #[.pointer (some ⟨w1.heap.size + 1 + 1, 0, none⟩), .pointer (some ⟨w1.heap.size, 0, none⟩), .pointer (some ⟨w.heap.size, 0, none⟩)]) n (59926608000 + secs) at0 cur after w.heap.size ad hz1 ha1 hg1
  have W2 := laid4_free w1 (.func (.func 10) #[] #[.pointer (some ⟨w1.heap.size + 1 + 1, 0, none⟩), .pointer (some ⟨w1.heap.size, 0, none⟩), .pointer (some ⟨w.heap.size, 0, none⟩)]) n (59926608000 + secs) at0 cur
  have W3 := laid4_time w1 (.func (.func 10) #[] #[.pointer (some ⟨w1.heap.size + 1 + 1, 0, none⟩), .pointer (some ⟨w1.heap.size, 0, none⟩), .pointer (some ⟨w.heap.size, 0, none⟩)]) n (59926608000 + secs) at0 cur
  have W4 := laidClock4_size w1 (.func (.func 10) #[] #[.pointer (some ⟨w1.heap.size + 1 + 1, 0, none⟩), .pointer (some ⟨w1.heap.size, 0, none⟩), .pointer (some ⟨w.heap.size, 0, none⟩)]) n (59926608000 + secs) at0 cur
  have W5 := laid4_below B1 (by omega) (.func (.func 10) #[] #[.pointer (some ⟨w1.heap.size + 1 + 1, 0, none⟩), .pointer (some ⟨w1.heap.size, 0, none⟩), .pointer (some ⟨w.heap.size, 0, none⟩)]) n (59926608000 + secs) at0 cur
  refine (Clo10.full_drop_out (w1.heap.size + 1 + 1 + 1) (w1.heap.size + 1 + 1) w1.heap.size w.heap.size w.heap.size n secs after bef at0 cur M (10000 + g) X N ad (laidClock4 w1 _ n (59926608000 + secs) at0 cur) h0 h1 h2 h3 W0 W1 W2 W3 (by omega) (by omega) (by omega) (by omega) (by omega) (by omega) (by omega) (by omega) hz (by omega) (by omega) hM HD.out hX hN hN0 hN1 q1 q2 (by omega) q4).mono ?_
  rintro e w5 ⟨rfl, H5, hb5⟩
  have B5 : Below w.heap.size w w5 := W5.trans hb5
  have hz5 : w1.heap.size + 4 ≤ w5.heap.size := by have := hb5.size; omega
  clear hb5 B1 ha1 hg1 W0 W1 W2 W3 W4 W5
  obtain ⟨c1, -, c3, -, c5, c6, c7⟩ := H5
  go_wp2_with fail
  refine (load_any _ _ M _ c3).mono ?_
  rintro e w6 ⟨rfl, rfl⟩
  go_wp2_with fail
  refine (load_any _ _ after _ c1).mono ?_
  rintro e w7 ⟨rfl, rfl⟩
  go_wp2_with fail
  go_ret
  exact ⟨by simp, B5⟩

set_option maxRecDepth 100000 in
set_option maxHeartbeats 2000000 in
theorem off_raiseT_in (secs ns after g sel d at0 n M bv cur bef X N : Int) (ad : Addr) (w : World) (h0 : 0 ≤ n) (h1 : n < 1000000000) (h2 : 0 ≤ secs) (h3 : secs < 4294967296) (hns : ns % 1000000000 = n) (hns0 : 0 ≤ ns) (hns1 : ns < 4294967296)
    (hg0 : -128 ≤ g) (hg1 : g ≤ 127) (hs0 : 0 ≤ sel) (hs1 : sel ≤ 255) (hd0 : -32768 ≤ d) (hd1 : d ≤ 32767)
    (hM : wrap64 (secs * 1000000000 + n - after) = M) (hbv : ([.int .i64 0, .int .i64 10000, .int .i64 (-10000), .int .i64 1099511627776] : List Value)[(sel % 4).toNat]? = some (.int .i64 bv))
    (hcur : wrap64 (wrap64 (M + bv) + d) = cur) (hbef : wrap64 (after - (10000 + g)) = bef) (HD : Hid (wrap64 (after - bef) = 10000 + g)) (hX : wrap64 (cur - 10000) = X) (hN : IntKind.u64.wrap (wrap64 (after + M)) = N) (hN0 : 0 ≤ N) (hN1 : N < 18446744073709551616)
    (q1 : cur < M) (q3 : g ≤ 0) (q4 : N < 4294967296000000000)
    (hg : w.cell? ⟨0, 0, none⟩ = some (.iface 67 (.pointer (some ad)))) (hz : 0 < w.heap.size) :
    Calls Ybad.prog 4 #[.int .u32 secs, .int .u32 ns, .int .i64 after, .int .i8 g, .int .u8 sel, .int .i16 d, .int .i64 at0] w fun e w' => e = .returned (.bool true) ∧ Below w.heap.size w w' := by
  have hw := want_eq (N / 1000000000) (N % 1000000000) (by omega) (by omega) (by omega) (by omega)
  go_enter Ybad.func4, Ybad.ntmps4
  go_wp2_with fail
  refine (btime_in secs n _ h2 h3 h0 h1).mono ?_
  rintro e w1 ⟨rfl, hb1⟩
  have ha1 : w1.cell? ⟨w.heap.size, 0, none⟩ = some (.int .i64 after) := (hb1.cell (p := ⟨w.heap.size, 0, none⟩) (by simp)).trans (by go_simp)
  have hg1 : w1.cell? ⟨0, 0, none⟩ = some (.iface 67 (.pointer (some ad))) := (hb1.cell (p := ⟨0, 0, none⟩) (by simp)).trans (by go_simp)
  have hz1 : w.heap.size < w1.heap.size := by have := hb1.size; simp at this; omega
  have B1 : Below w.heap.size w w1 := ((Below.refl _ _).alloc (Nat.le_refl _) _).trans (hb1.mono (by simp))
  clear hb1 hg
  go_wp2_with fail
  refine (newWall_any _ _ _ _).mono ?_
  rintro e w2 ⟨rfl, rfl⟩
  go_wp2_with fail
  refine (store_any (w1.heap.size + 1 + 1 + 1) 3 cur (.int .i64 (-9223372036854775808)) _ (by go_simp) (by go_simp)).mono ?_
  rintro e w3 ⟨rfl, rfl⟩
  go_wp2_with fail
  refine (store_any (w1.heap.size + 1 + 1 + 1) 2 at0 (.int .i64 (-9223372036854775808)) _ (by go_simp) (by go_simp)).mono ?_
  rintro e w4 ⟨rfl, rfl⟩
  go_wp2_with fail
  have W0 := laid4_now w1 (.func (.func 10) #[] #[.pointer (some ⟨w1.heap.size + 1 + 1, 0, none⟩), .pointer (some ⟨w1.heap.size, 0, none⟩), .pointer (some ⟨w.heap.size, 0, none⟩)]) n (59926608000 + secs) at0 cur
  have W1 := laid4_held w1 (.func (.func 10) #[] #[.pointer (some ⟨w1.heap.size + 1 + 1, 0, none⟩), .pointer (some ⟨w1.heap.size, 0, none⟩), .pointer (some ⟨w.heap.size, 0, none⟩)]) n (59926608000 + secs) at0 cur after w.heap.size ad hz1 ha1 hg1
  have W2 := laid4_free w1 (.func (.func 10) #[] #[.pointer (some ⟨w1.heap.size + 1 + 1, 0, none⟩), .pointer (some ⟨w1.heap.size, 0, none⟩), .pointer (some ⟨w.heap.size, 0, none⟩)]) n (59926608000 + secs) at0 cur
  have W3 := laid4_time w1 (.func (.func 10) #[] #[.pointer (some ⟨w1.heap.size + 1 + 1, 0, none⟩), .pointer (some ⟨w1.heap.size, 0, none⟩), .pointer (some ⟨w.heap.size, 0, none⟩)]) n (59926608000 + secs) at0 cur
  have W4 := laidClock4_size w1 (.func (.func 10) #[] #[.pointer (some ⟨w1.heap.size + 1 + 1, 0, none⟩), .pointer (some ⟨w1.heap.size, 0, none⟩), .pointer (some ⟨w.heap.size, 0, none⟩)]) n (59926608000 + secs) at0 cur
  have W5 := laid4_below B1 (by omega) (.func (.func 10) #[] #[.pointer (some ⟨w1.heap.size + 1 + 1, 0, none⟩), .pointer (some ⟨w1.heap.size, 0, none⟩), .pointer (some ⟨w.heap.size, 0, none⟩)]) n (59926608000 + secs) at0 cur
  refine (Clo10.full_raiseT_in (w1.heap.size + 1 + 1 + 1) (w1.heap.size + 1 + 1) w1.heap.size w.heap.size w.heap.size n secs after bef at0 cur M (10000 + g) X N ad (laidClock4 w1 _ n (59926608000 + secs) at0 cur) h0 h1 h2 h3 W0 W1 W2 W3 (by omega) (by omega) (by omega) (by omega) (by omega) (by omega) (by omega) (by omega) hz (by omega) (by omega) hM HD.out hX hN hN0 hN1 q1 (by omega) q4).mono ?_
  rintro e w5 ⟨rfl, H5, hb5⟩
  have B5 : Below w.heap.size w w5 := W5.trans hb5
  have hz5 : w1.heap.size + 4 ≤ w5.heap.size := by have := hb5.size; omega
  clear hb5 B1 ha1 hg1 W0 W1 W2 W3 W4 W5
  obtain ⟨c1, -, c3, -, c5, c6, c7⟩ := H5
  go_wp2_with fail
  refine (load_any _ _ M _ c3).mono ?_
  rintro e w6 ⟨rfl, rfl⟩
  go_wp2_with fail
  refine (load_any _ _ after _ c1).mono ?_
  rintro e w7 ⟨rfl, rfl⟩
  go_wp2_with fail
  go_ret
  exact ⟨by simp, B5⟩

set_option maxRecDepth 100000 in
set_option maxHeartbeats 2000000 in
theorem off_raiseT_out (secs ns after g sel d at0 n M bv cur bef X N : Int) (ad : Addr) (w : World) (h0 : 0 ≤ n) (h1 : n < 1000000000) (h2 : 0 ≤ secs) (h3 : secs < 4294967296) (hns : ns % 1000000000 = n) (hns0 : 0 ≤ ns) (hns1 : ns < 4294967296)
    (hg0 : -128 ≤ g) (hg1 : g ≤ 127) (hs0 : 0 ≤ sel) (hs1 : sel ≤ 255) (hd0 : -32768 ≤ d) (hd1 : d ≤ 32767)
    (hM : wrap64 (secs * 1000000000 + n - after) = M) (hbv : ([.int .i64 0, .int .i64 10000, .int .i64 (-10000), .int .i64 1099511627776] : List Value)[(sel % 4).toNat]? = some (.int .i64 bv))
    (hcur : wrap64 (wrap64 (M + bv) + d) = cur) (hbef : wrap64 (after - (10000 + g)) = bef) (HD : Hid (wrap64 (after - bef) = 10000 + g)) (hX : wrap64 (cur - 10000) = X) (hN : IntKind.u64.wrap (wrap64 (after + M)) = N) (hN0 : 0 ≤ N) (hN1 : N < 18446744073709551616)
    (q1 : cur < M) (q3 : g ≤ 0) (q4 : 4294967296000000000 ≤ N)
    (hg : w.cell? ⟨0, 0, none⟩ = some (.iface 67 (.pointer (some ad)))) (hz : 0 < w.heap.size) :
    Calls Ybad.prog 4 #[.int .u32 secs, .int .u32 ns, .int .i64 after, .int .i8 g, .int .u8 sel, .int .i16 d, .int .i64 at0] w fun e w' => e = .returned (.bool true) ∧ Below w.heap.size w w' := by
  have heq := fun (wx : World) => eql_same ad wx
  go_enter Ybad.func4, Ybad.ntmps4
  go_wp2_with fail
  refine (btime_in secs n _ h2 h3 h0 h1).mono ?_
  rintro e w1 ⟨rfl, hb1⟩
  have ha1 : w1.cell? ⟨w.heap.size, 0, none⟩ = some (.int .i64 after) := (hb1.cell (p := ⟨w.heap.size, 0, none⟩) (by simp)).trans (by go_simp)
  have hg1 : w1.cell? ⟨0, 0, none⟩ = some (.iface 67 (.pointer (some ad))) := (hb1.cell (p := ⟨0, 0, none⟩) (by simp)).trans (by go_simp)
  have hz1 : w.heap.size < w1.heap.size := by have := hb1.size; simp at this; omega
  have B1 : Below w.heap.size w w1 := ((Below.refl _ _).alloc (Nat.le_refl _) _).trans (hb1.mono (by simp))
  clear hb1 hg
  go_wp2_with fail
  refine (newWall_any _ _ _ _).mono ?_
  rintro e w2 ⟨rfl, rfl⟩
  go_wp2_with fail
  refine (store_any (w1.heap.size + 1 + 1 + 1) 3 cur (.int .i64 (-9223372036854775808)) _ (by go_simp) (by go_simp)).mono ?_
  rintro e w3 ⟨rfl, rfl⟩
  go_wp2_with fail
  refine (store_any (w1.heap.size + 1 + 1 + 1) 2 at0 (.int .i64 (-9223372036854775808)) _ (by go_simp) (by go_simp)).mono ?_
  rintro e w4 ⟨rfl, rfl⟩
  go_wp2_with fail
  have W0 := laid4_now w1 (.func (.func 10) #[] #[.pointer (some ⟨w1.heap.size + 1 + 1, 0, none⟩), .pointer (some ⟨w1.heap.size, 0, none⟩), .pointer (some ⟨w.heap.size, 0, none⟩)]) n (59926608000 + secs) at0 cur
  have W1 := laid4_held w1 (.func (.func 10) #[] #[.pointer (some ⟨w1.heap.size + 1 + 1, 0, none⟩), .pointer (some ⟨w1.heap.size, 0, none⟩), .pointer (some ⟨w.heap.size, 0, none⟩)]) n (59926608000 + secs) at0 cur after w.heap.size ad hz1 ha1 hg1
  have W2 := laid4_free w1 (.func (.func 10) #[] #[.pointer (some ⟨w1.heap.size + 1 + 1, 0, none⟩), .pointer (some ⟨w1.heap.size, 0, none⟩), .pointer (some ⟨w.heap.size, 0, none⟩)]) n (59926608000 + secs) at0 cur
  have W3 := laid4_time w1 (.func (.func 10) #[] #[.pointer (some ⟨w1.heap.size + 1 + 1, 0, none⟩), .pointer (some ⟨w1.heap.size, 0, none⟩), .pointer (some ⟨w.heap.size, 0, none⟩)]) n (59926608000 + secs) at0 cur
  have W4 := laidClock4_size w1 (.func (.func 10) #[] #[.pointer (some ⟨w1.heap.size + 1 + 1, 0, none⟩), .pointer (some ⟨w1.heap.size, 0, none⟩), .pointer (some ⟨w.heap.size, 0, none⟩)]) n (59926608000 + secs) at0 cur
  have W5 := laid4_below B1 (by omega) (.func (.func 10) #[] #[.pointer (some ⟨w1.heap.size + 1 + 1, 0, none⟩), .pointer (some ⟨w1.heap.size, 0, none⟩), .pointer (some ⟨w.heap.size, 0, none⟩)]) n (59926608000 + secs) at0 cur
  refine (Clo10.full_raiseT_out (w1.heap.size + 1 + 1 + 1) (w1.heap.size + 1 + 1) w1.heap.size w.heap.size w.heap.size n secs after bef at0 cur M (10000 + g) X N ad (laidClock4 w1 _ n (59926608000 + secs) at0 cur) h0 h1 h2 h3 W0 W1 W2 W3 (by omega) (by omega) (by omega) (by omega) (by omega) (by omega) (by omega) (by omega) hz (by omega) (by omega) hM HD.out hX hN hN0 hN1 q1 (by omega) q4).mono ?_
  rintro e w5 ⟨rfl, H5, hb5⟩
  have B5 : Below w.heap.size w w5 := W5.trans hb5
  have hz5 : w1.heap.size + 4 ≤ w5.heap.size := by have := hb5.size; omega
  clear hb5 B1 ha1 hg1 W0 W1 W2 W3 W4 W5
  obtain ⟨c1, -, c3, -, c5, c6, c7⟩ := H5
  go_wp2_with fail
  refine (load_any _ _ M _ c3).mono ?_
  rintro e w6 ⟨rfl, rfl⟩
  go_wp2_with fail
  refine (load_any _ _ after _ c1).mono ?_
  rintro e w7 ⟨rfl, rfl⟩
  go_wp2_with fail
  go_ret
  exact ⟨by simp, B5⟩

end Go.Proofs.YbulkiugDoor.Off
