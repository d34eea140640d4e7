/-
  (*wallClock).full (8) over the closure 10: case by case.
-/
import Derived.Test.YbulkiugDoorHeld
import Derived.Test.YbulkiugDoorStamp
namespace Go.Proofs.YbulkiugDoor.Clo10
open Go.RowKit
set_option linter.unusedVariables false      -- one head for all cases: not every case uses every premise

set_option maxRecDepth 100000 in
set_option maxHeartbeats 2000000 in
theorem full_drop_in (c k t a B : Nat) (n secs after before at0 cur M D X N : Int) (ad : Addr) (w : World)
    (h0 : 0 ≤ n) (h1 : n < 1000000000) (h2 : 0 ≤ secs) (h3 : secs < 4294967296)
    (hnow : w.cell? ⟨c, 0, none⟩ = some (.func (.func 10) #[] #[.pointer (some ⟨k, 0, none⟩), .pointer (some ⟨t, 0, none⟩), .pointer (some ⟨a, 0, none⟩)]))
    (hH : Held w c k a at0 cur 0 after ad) (hkf : w.frozen? ⟨k, 0, none⟩ = false) (ht : TimeAt w t n (59926608000 + secs))
    (lc : c < w.heap.size) (lk : k < w.heap.size) (lt : t < w.heap.size) (la : a < w.heap.size) (hck : c ≠ k) (hkt : k ≠ t) (hka : k ≠ a) (hca : c ≠ a) (hB : 0 < B) (bc : B ≤ c) (bk : B ≤ k)
    (hM : wrap64 (secs * 1000000000 + n - after) = M) (hD : wrap64 (after - before) = D) (hX : wrap64 (cur - 10000) = X) (hN : IntKind.u64.wrap (wrap64 (after + M)) = N) (hN0 : 0 ≤ N) (hN1 : N < 18446744073709551616)
    (q1 : M ≤ cur) (q2 : M < X) (q3 : D ≤ 10000) (q4 : N < 4294967296000000000) :
    Calls Ybad.prog 8 #[.pointer (some ⟨c, 0, none⟩), .int .i64 before] w fun e w' => e = .returned (.tuple #[.int .u64 (stamp (N / 1000000000) (N % 1000000000)), .nilIface]) ∧ Held w' c k a after M 1 after ad ∧ Below B w w' := by
  have hst := stamp_div secs n h2 h3 h0 h1
  have hk := hH.2.2.2.2.1
  have ha := hH.2.2.2.2.2.1
  have H1 := (((hH.count hck hka (by omega) 1).alloc (by simpa using lc) (by simpa using lk) (by simpa using la) (.cells #[.int .u64 n, .int .i64 (59926608000 + secs), .pointer none] 26)).alloc (by simp; omega) (by simp; omega) (by simp; omega) (.cells #[.int .u64 n, .int .i64 (59926608000 + secs), .pointer none] 26)).below (Below.refl (w.heap.size + 2) _).drew (by omega) (by omega) (by omega)
  have B1 : Below B w (((w.setCell ⟨k, 0, none⟩ (.int .i64 1)).alloc (.cells #[.int .u64 n, .int .i64 (59926608000 + secs), .pointer none] 26)).alloc (.cells #[.int .u64 n, .int .i64 (59926608000 + secs), .pointer none] 26)).drew :=
    ((((Below.refl B w).setCell (p := ⟨k, 0, none⟩) bk _).alloc (by simp; omega) _).alloc (by simp; omega) _).drew
  have T1 : TimeAt (((w.setCell ⟨k, 0, none⟩ (.int .i64 1)).alloc (.cells #[.int .u64 n, .int .i64 (59926608000 + secs), .pointer none] 26)).alloc (.cells #[.int .u64 n, .int .i64 (59926608000 + secs), .pointer none] 26)).drew (w.heap.size + 1) n (59926608000 + secs) :=
    ⟨by go_simp, by go_simp, by go_simp, by go_simp, by go_simp, by go_simp⟩
  go_enter Ybad.func8, Ybad.ntmps8
  go_wp2_with fail
  refine (clo10_any k t a n (59926608000 + secs) after _ hk hkf ht ha hkt hka lt la lk).mono ?_
  rintro e w1 ⟨rfl, rfl⟩
  go_wp2_with fail
  refine (fromTime_in n secs _ h0 h1 h2 h3).mono ?_
  rintro e w3 ⟨rfl, hb3⟩
  have hz3 : w.heap.size + 2 ≤ w3.heap.size := by have := hb3.size; simp at this; omega
  have H3 := H1.below hb3 (by simp; omega) (by simp; omega) (by simp; omega)
  have T3 := T1.below hb3 (by simp)
  have B3 : Below B w w3 := B1.trans (hb3.mono (by simp; omega))
  clear hb3 H1 B1 T1 hH hk ha hkf ht hnow
  obtain ⟨t0, t1, t2, -, -, -⟩ := T3
  go_wp2_with fail
  refine (nanosecond_any n (59926608000 + secs) _ h0 h1).mono ?_
  rintro e w4 ⟨rfl, rfl⟩
  have H4 := H3.alloc (by omega) (by omega) (by omega) (.cells #[.int .u64 n, .int .i64 (59926608000 + secs), .pointer none] 26)
  have B4 := B3.alloc (by omega) (.cells #[.int .u64 n, .int .i64 (59926608000 + secs), .pointer none] 26)
  have hz4 : w.heap.size + 2 ≤ (w3.alloc (.cells #[.int .u64 n, .int .i64 (59926608000 + secs), .pointer none] 26)).heap.size := by simp; omega
  generalize w3.alloc (.cells #[.int .u64 n, .int .i64 (59926608000 + secs), .pointer none] 26) = w4 at *
  clear t0 t1 t2 H3 B3 hz3
  go_wp2_with fail
  refine wp_loop_rounds 1 ?_
  rw [rounds_succ]
  go_wp2_with fail
  rw [hM]
  refine (load_any c 3 cur _ H4.2.2.1).mono ?_
  rintro e w5 ⟨rfl, rfl⟩
  go_wp2_with fail
  refine (cas_hit c 3 cur M _ H4.2.2.1 H4.2.2.2.1).mono ?_
  rintro e w6 ⟨rfl, rfl⟩
  have H6 := H4.setOff hck hca (by omega) M
  have B6 := B4.setCell (p := ⟨c, 3, none⟩) bc (.int .i64 M)
  have hz6 : w.heap.size + 2 ≤ (w5.setCell ⟨c, 3, none⟩ (.int .i64 M)).heap.size := by simpa using hz4
  generalize w5.setCell ⟨c, 3, none⟩ (.int .i64 M) = w6 at *
  clear H4 B4 hz4
  go_wp2_with fail
  refine (store_any c 2 after _ _ H6.1 H6.2.1).mono ?_
  rintro e w7 ⟨rfl, rfl⟩
  have H7 := H6.setAt hck hca (by omega) after
  have B7 := B6.setCell (p := ⟨c, 2, none⟩) bc (.int .i64 after)
  have hz7 : w.heap.size + 2 ≤ (w6.setCell ⟨c, 2, none⟩ (.int .i64 after)).heap.size := by simpa using hz6
  generalize w6.setCell ⟨c, 2, none⟩ (.int .i64 after) = w7 at *
  clear H6 B6 hz6
  go_wp2_with fail
  refine (derived_any c after _ N _ H7.2.2.1 hN hN0 hN1).mono ?_
  rintro e w8 ⟨rfl, rfl⟩
  go_wp2_with fail
  go_ret2
  exact ⟨rfl, H7, B7⟩

set_option maxRecDepth 100000 in
set_option maxHeartbeats 2000000 in
theorem full_drop_out (c k t a B : Nat) (n secs after before at0 cur M D X N : Int) (ad : Addr) (w : World)
    (h0 : 0 ≤ n) (h1 : n < 1000000000) (h2 : 0 ≤ secs) (h3 : secs < 4294967296)
    (hnow : w.cell? ⟨c, 0, none⟩ = some (.func (.func 10) #[] #[.pointer (some ⟨k, 0, none⟩), .pointer (some ⟨t, 0, none⟩), .pointer (some ⟨a, 0, none⟩)]))
    (hH : Held w c k a at0 cur 0 after ad) (hkf : w.frozen? ⟨k, 0, none⟩ = false) (ht : TimeAt w t n (59926608000 + secs))
    (lc : c < w.heap.size) (lk : k < w.heap.size) (lt : t < w.heap.size) (la : a < w.heap.size) (hck : c ≠ k) (hkt : k ≠ t) (hka : k ≠ a) (hca : c ≠ a) (hB : 0 < B) (bc : B ≤ c) (bk : B ≤ k)
    (hM : wrap64 (secs * 1000000000 + n - after) = M) (hD : wrap64 (after - before) = D) (hX : wrap64 (cur - 10000) = X) (hN : IntKind.u64.wrap (wrap64 (after + M)) = N) (hN0 : 0 ≤ N) (hN1 : N < 18446744073709551616)
    (q1 : M ≤ cur) (q2 : M < X) (q3 : D ≤ 10000) (q4 : 4294967296000000000 ≤ N) :
    Calls Ybad.prog 8 #[.pointer (some ⟨c, 0, none⟩), .int .i64 before] w fun e w' => e = .returned (.tuple #[.int .u64 0, .iface 67 (.pointer (some ad))]) ∧ Held w' c k a after M 1 after ad ∧ Below B w w' := by
  have hst := stamp_div secs n h2 h3 h0 h1
  have hk := hH.2.2.2.2.1
  have ha := hH.2.2.2.2.2.1
  have H1 := (((hH.count hck hka (by omega) 1).alloc (by simpa using lc) (by simpa using lk) (by simpa using la) (.cells #[.int .u64 n, .int .i64 (59926608000 + secs), .pointer none] 26)).alloc (by simp; omega) (by simp; omega) (by simp; omega) (.cells #[.int .u64 n, .int .i64 (59926608000 + secs), .pointer none] 26)).below (Below.refl (w.heap.size + 2) _).drew (by omega) (by omega) (by omega)
  have B1 : Below B w (((w.setCell ⟨k, 0, none⟩ (.int .i64 1)).alloc (.cells #[.int .u64 n, .int .i64 (59926608000 + secs), .pointer none] 26)).alloc (.cells #[.int .u64 n, .int .i64 (59926608000 + secs), .pointer none] 26)).drew :=
    ((((Below.refl B w).setCell (p := ⟨k, 0, none⟩) bk _).alloc (by simp; omega) _).alloc (by simp; omega) _).drew
  have T1 : TimeAt (((w.setCell ⟨k, 0, none⟩ (.int .i64 1)).alloc (.cells #[.int .u64 n, .int .i64 (59926608000 + secs), .pointer none] 26)).alloc (.cells #[.int .u64 n, .int .i64 (59926608000 + secs), .pointer none] 26)).drew (w.heap.size + 1) n (59926608000 + secs) :=
    ⟨by go_simp, by go_simp, by go_simp, by go_simp, by go_simp, by go_simp⟩
  go_enter Ybad.func8, Ybad.ntmps8
  go_wp2_with fail
  refine (clo10_any k t a n (59926608000 + secs) after _ hk hkf ht ha hkt hka lt la lk).mono ?_
  rintro e w1 ⟨rfl, rfl⟩
  go_wp2_with fail
  refine (fromTime_in n secs _ h0 h1 h2 h3).mono ?_
  rintro e w3 ⟨rfl, hb3⟩
  have hz3 : w.heap.size + 2 ≤ w3.heap.size := by have := hb3.size; simp at this; omega
  have H3 := H1.below hb3 (by simp; omega) (by simp; omega) (by simp; omega)
  have T3 := T1.below hb3 (by simp)
  have B3 : Below B w w3 := B1.trans (hb3.mono (by simp; omega))
  clear hb3 H1 B1 T1 hH hk ha hkf ht hnow
  obtain ⟨t0, t1, t2, -, -, -⟩ := T3
  go_wp2_with fail
  refine (nanosecond_any n (59926608000 + secs) _ h0 h1).mono ?_
  rintro e w4 ⟨rfl, rfl⟩
  have H4 := H3.alloc (by omega) (by omega) (by omega) (.cells #[.int .u64 n, .int .i64 (59926608000 + secs), .pointer none] 26)
  have B4 := B3.alloc (by omega) (.cells #[.int .u64 n, .int .i64 (59926608000 + secs), .pointer none] 26)
  have hz4 : w.heap.size + 2 ≤ (w3.alloc (.cells #[.int .u64 n, .int .i64 (59926608000 + secs), .pointer none] 26)).heap.size := by simp; omega
  generalize w3.alloc (.cells #[.int .u64 n, .int .i64 (59926608000 + secs), .pointer none] 26) = w4 at *
  clear t0 t1 t2 H3 B3 hz3
  go_wp2_with fail
  refine wp_loop_rounds 1 ?_
  rw [rounds_succ]
  go_wp2_with fail
  rw [hM]
  refine (load_any c 3 cur _ H4.2.2.1).mono ?_
  rintro e w5 ⟨rfl, rfl⟩
  go_wp2_with fail
  refine (cas_hit c 3 cur M _ H4.2.2.1 H4.2.2.2.1).mono ?_
  rintro e w6 ⟨rfl, rfl⟩
  have H6 := H4.setOff hck hca (by omega) M
  have B6 := B4.setCell (p := ⟨c, 3, none⟩) bc (.int .i64 M)
  have hz6 : w.heap.size + 2 ≤ (w5.setCell ⟨c, 3, none⟩ (.int .i64 M)).heap.size := by simpa using hz4
  generalize w5.setCell ⟨c, 3, none⟩ (.int .i64 M) = w6 at *
  clear H4 B4 hz4
  go_wp2_with fail
  refine (store_any c 2 after _ _ H6.1 H6.2.1).mono ?_
  rintro e w7 ⟨rfl, rfl⟩
  have H7 := H6.setAt hck hca (by omega) after
  have B7 := B6.setCell (p := ⟨c, 2, none⟩) bc (.int .i64 after)
  have hz7 : w.heap.size + 2 ≤ (w6.setCell ⟨c, 2, none⟩ (.int .i64 after)).heap.size := by simpa using hz6
  generalize w6.setCell ⟨c, 2, none⟩ (.int .i64 after) = w7 at *
  clear H6 B6 hz6
  go_wp2_with fail
  refine (derived_any c after _ N _ H7.2.2.1 hN hN0 hN1).mono ?_
  rintro e w8 ⟨rfl, rfl⟩
  have G7 := H7.2.2.2.2.2.2
  go_wp2_with fail
  go_region
  go_wp2
  go_ret2
  exact ⟨rfl, H7, B7.drew⟩

set_option maxRecDepth 100000 in
set_option maxHeartbeats 2000000 in
theorem full_raiseT_in (c k t a B : Nat) (n secs after before at0 cur M D X N : Int) (ad : Addr) (w : World)
    (h0 : 0 ≤ n) (h1 : n < 1000000000) (h2 : 0 ≤ secs) (h3 : secs < 4294967296)
    (hnow : w.cell? ⟨c, 0, none⟩ = some (.func (.func 10) #[] #[.pointer (some ⟨k, 0, none⟩), .pointer (some ⟨t, 0, none⟩), .pointer (some ⟨a, 0, none⟩)]))
    (hH : Held w c k a at0 cur 0 after ad) (hkf : w.frozen? ⟨k, 0, none⟩ = false) (ht : TimeAt w t n (59926608000 + secs))
    (lc : c < w.heap.size) (lk : k < w.heap.size) (lt : t < w.heap.size) (la : a < w.heap.size) (hck : c ≠ k) (hkt : k ≠ t) (hka : k ≠ a) (hca : c ≠ a) (hB : 0 < B) (bc : B ≤ c) (bk : B ≤ k)
    (hM : wrap64 (secs * 1000000000 + n - after) = M) (hD : wrap64 (after - before) = D) (hX : wrap64 (cur - 10000) = X) (hN : IntKind.u64.wrap (wrap64 (after + M)) = N) (hN0 : 0 ≤ N) (hN1 : N < 18446744073709551616)
    (q1 : cur < M) (q3 : D ≤ 10000) (q4 : N < 4294967296000000000) :
    Calls Ybad.prog 8 #[.pointer (some ⟨c, 0, none⟩), .int .i64 before] w fun e w' => e = .returned (.tuple #[.int .u64 (stamp (N / 1000000000) (N % 1000000000)), .nilIface]) ∧ Held w' c k a after M 1 after ad ∧ Below B w w' := by
  have hst := stamp_div secs n h2 h3 h0 h1
  have hk := hH.2.2.2.2.1
  have ha := hH.2.2.2.2.2.1
  have H1 := (((hH.count hck hka (by omega) 1).alloc (by simpa using lc) (by simpa using lk) (by simpa using la) (.cells #[.int .u64 n, .int .i64 (59926608000 + secs), .pointer none] 26)).alloc (by simp; omega) (by simp; omega) (by simp; omega) (.cells #[.int .u64 n, .int .i64 (59926608000 + secs), .pointer none] 26)).below (Below.refl (w.heap.size + 2) _).drew (by omega) (by omega) (by omega)
  have B1 : Below B w (((w.setCell ⟨k, 0, none⟩ (.int .i64 1)).alloc (.cells #[.int .u64 n, .int .i64 (59926608000 + secs), .pointer none] 26)).alloc (.cells #[.int .u64 n, .int .i64 (59926608000 + secs), .pointer none] 26)).drew :=
    ((((Below.refl B w).setCell (p := ⟨k, 0, none⟩) bk _).alloc (by simp; omega) _).alloc (by simp; omega) _).drew
  have T1 : TimeAt (((w.setCell ⟨k, 0, none⟩ (.int .i64 1)).alloc (.cells #[.int .u64 n, .int .i64 (59926608000 + secs), .pointer none] 26)).alloc (.cells #[.int .u64 n, .int .i64 (59926608000 + secs), .pointer none] 26)).drew (w.heap.size + 1) n (59926608000 + secs) :=
    ⟨by go_simp, by go_simp, by go_simp, by go_simp, by go_simp, by go_simp⟩
  go_enter Ybad.func8, Ybad.ntmps8
  go_wp2_with fail
  refine (clo10_any k t a n (59926608000 + secs) after _ hk hkf ht ha hkt hka lt la lk).mono ?_
  rintro e w1 ⟨rfl, rfl⟩
  go_wp2_with fail
  refine (fromTime_in n secs _ h0 h1 h2 h3).mono ?_
  rintro e w3 ⟨rfl, hb3⟩
  have hz3 : w.heap.size + 2 ≤ w3.heap.size := by have := hb3.size; simp at this; omega
  have H3 := H1.below hb3 (by simp; omega) (by simp; omega) (by simp; omega)
  have T3 := T1.below hb3 (by simp)
  have B3 : Below B w w3 := B1.trans (hb3.mono (by simp; omega))
  clear hb3 H1 B1 T1 hH hk ha hkf ht hnow
  obtain ⟨t0, t1, t2, -, -, -⟩ := T3
  go_wp2_with fail
  refine (nanosecond_any n (59926608000 + secs) _ h0 h1).mono ?_
  rintro e w4 ⟨rfl, rfl⟩
  have H4 := H3.alloc (by omega) (by omega) (by omega) (.cells #[.int .u64 n, .int .i64 (59926608000 + secs), .pointer none] 26)
  have B4 := B3.alloc (by omega) (.cells #[.int .u64 n, .int .i64 (59926608000 + secs), .pointer none] 26)
  have hz4 : w.heap.size + 2 ≤ (w3.alloc (.cells #[.int .u64 n, .int .i64 (59926608000 + secs), .pointer none] 26)).heap.size := by simp; omega
  generalize w3.alloc (.cells #[.int .u64 n, .int .i64 (59926608000 + secs), .pointer none] 26) = w4 at *
  clear t0 t1 t2 H3 B3 hz3
  go_wp2_with fail
  refine wp_loop_rounds 1 ?_
  rw [rounds_succ]
  go_wp2_with fail
  rw [hM]
  refine (load_any c 3 cur _ H4.2.2.1).mono ?_
  rintro e w5 ⟨rfl, rfl⟩
  go_wp2_with fail
  refine (cas_hit c 3 cur M _ H4.2.2.1 H4.2.2.2.1).mono ?_
  rintro e w6 ⟨rfl, rfl⟩
  have H6 := H4.setOff hck hca (by omega) M
  have B6 := B4.setCell (p := ⟨c, 3, none⟩) bc (.int .i64 M)
  have hz6 : w.heap.size + 2 ≤ (w5.setCell ⟨c, 3, none⟩ (.int .i64 M)).heap.size := by simpa using hz4
  generalize w5.setCell ⟨c, 3, none⟩ (.int .i64 M) = w6 at *
  clear H4 B4 hz4
  go_wp2_with fail
  refine (store_any c 2 after _ _ H6.1 H6.2.1).mono ?_
  rintro e w7 ⟨rfl, rfl⟩
  have H7 := H6.setAt hck hca (by omega) after
  have B7 := B6.setCell (p := ⟨c, 2, none⟩) bc (.int .i64 after)
  have hz7 : w.heap.size + 2 ≤ (w6.setCell ⟨c, 2, none⟩ (.int .i64 after)).heap.size := by simpa using hz6
  generalize w6.setCell ⟨c, 2, none⟩ (.int .i64 after) = w7 at *
  clear H6 B6 hz6
  go_wp2_with fail
  refine (derived_any c after _ N _ H7.2.2.1 hN hN0 hN1).mono ?_
  rintro e w8 ⟨rfl, rfl⟩
  go_wp2_with fail
  go_ret2
  exact ⟨rfl, H7, B7⟩

set_option maxRecDepth 100000 in
set_option maxHeartbeats 2000000 in
theorem full_raiseT_out (c k t a B : Nat) (n secs after before at0 cur M D X N : Int) (ad : Addr) (w : World)
    (h0 : 0 ≤ n) (h1 : n < 1000000000) (h2 : 0 ≤ secs) (h3 : secs < 4294967296)
    (hnow : w.cell? ⟨c, 0, none⟩ = some (.func (.func 10) #[] #[.pointer (some ⟨k, 0, none⟩), .pointer (some ⟨t, 0, none⟩), .pointer (some ⟨a, 0, none⟩)]))
    (hH : Held w c k a at0 cur 0 after ad) (hkf : w.frozen? ⟨k, 0, none⟩ = false) (ht : TimeAt w t n (59926608000 + secs))
    (lc : c < w.heap.size) (lk : k < w.heap.size) (lt : t < w.heap.size) (la : a < w.heap.size) (hck : c ≠ k) (hkt : k ≠ t) (hka : k ≠ a) (hca : c ≠ a) (hB : 0 < B) (bc : B ≤ c) (bk : B ≤ k)
    (hM : wrap64 (secs * 1000000000 + n - after) = M) (hD : wrap64 (after - before) = D) (hX : wrap64 (cur - 10000) = X) (hN : IntKind.u64.wrap (wrap64 (after + M)) = N) (hN0 : 0 ≤ N) (hN1 : N < 18446744073709551616)
    (q1 : cur < M) (q3 : D ≤ 10000) (q4 : 4294967296000000000 ≤ N) :
    Calls Ybad.prog 8 #[.pointer (some ⟨c, 0, none⟩), .int .i64 before] w fun e w' => e = .returned (.tuple #[.int .u64 0, .iface 67 (.pointer (some ad))]) ∧ Held w' c k a after M 1 after ad ∧ Below B w w' := by
  have hst := stamp_div secs n h2 h3 h0 h1
  have hk := hH.2.2.2.2.1
  have ha := hH.2.2.2.2.2.1
  have H1 := (((hH.count hck hka (by omega) 1).alloc (by simpa using lc) (by simpa using lk) (by simpa using la) (.cells #[.int .u64 n, .int .i64 (59926608000 + secs), .pointer none] 26)).alloc (by simp; omega) (by simp; omega) (by simp; omega) (.cells #[.int .u64 n, .int .i64 (59926608000 + secs), .pointer none] 26)).below (Below.refl (w.heap.size + 2) _).drew (by omega) (by omega) (by omega)
  have B1 : Below B w (((w.setCell ⟨k, 0, none⟩ (.int .i64 1)).alloc (.cells #[.int .u64 n, .int .i64 (59926608000 + secs), .pointer none] 26)).alloc (.cells #[.int .u64 n, .int .i64 (59926608000 + secs), .pointer none] 26)).drew :=
    ((((Below.refl B w).setCell (p := ⟨k, 0, none⟩) bk _).alloc (by simp; omega) _).alloc (by simp; omega) _).drew
  have T1 : TimeAt (((w.setCell ⟨k, 0, none⟩ (.int .i64 1)).alloc (.cells #[.int .u64 n, .int .i64 (59926608000 + secs), .pointer none] 26)).alloc (.cells #[.int .u64 n, .int .i64 (59926608000 + secs), .pointer none] 26)).drew (w.heap.size + 1) n (59926608000 + secs) :=
    ⟨by go_simp, by go_simp, by go_simp, by go_simp, by go_simp, by go_simp⟩
  go_enter Ybad.func8, Ybad.ntmps8
  go_wp2_with fail
  refine (clo10_any k t a n (59926608000 + secs) after _ hk hkf ht ha hkt hka lt la lk).mono ?_
  rintro e w1 ⟨rfl, rfl⟩
  go_wp2_with fail
  refine (fromTime_in n secs _ h0 h1 h2 h3).mono ?_
  rintro e w3 ⟨rfl, hb3⟩
  have hz3 : w.heap.size + 2 ≤ w3.heap.size := by have := hb3.size; simp at this; omega
  have H3 := H1.below hb3 (by simp; omega) (by simp; omega) (by simp; omega)
  have T3 := T1.below hb3 (by simp)
  have B3 : Below B w w3 := B1.trans (hb3.mono (by simp; omega))
  clear hb3 H1 B1 T1 hH hk ha hkf ht hnow
  obtain ⟨t0, t1, t2, -, -, -⟩ := T3
  go_wp2_with fail
  refine (nanosecond_any n (59926608000 + secs) _ h0 h1).mono ?_
  rintro e w4 ⟨rfl, rfl⟩
  have H4 := H3.alloc (by omega) (by omega) (by omega) (.cells #[.int .u64 n, .int .i64 (59926608000 + secs), .pointer none] 26)
  have B4 := B3.alloc (by omega) (.cells #[.int .u64 n, .int .i64 (59926608000 + secs), .pointer none] 26)
  have hz4 : w.heap.size + 2 ≤ (w3.alloc (.cells #[.int .u64 n, .int .i64 (59926608000 + secs), .pointer none] 26)).heap.size := by simp; omega
  generalize w3.alloc (.cells #[.int .u64 n, .int .i64 (59926608000 + secs), .pointer none] 26) = w4 at *
  clear t0 t1 t2 H3 B3 hz3
  go_wp2_with fail
  refine wp_loop_rounds 1 ?_
  rw [rounds_succ]
  go_wp2_with fail
  rw [hM]
  refine (load_any c 3 cur _ H4.2.2.1).mono ?_
  rintro e w5 ⟨rfl, rfl⟩
  go_wp2_with fail
  refine (cas_hit c 3 cur M _ H4.2.2.1 H4.2.2.2.1).mono ?_
  rintro e w6 ⟨rfl, rfl⟩
  have H6 := H4.setOff hck hca (by omega) M
  have B6 := B4.setCell (p := ⟨c, 3, none⟩) bc (.int .i64 M)
  have hz6 : w.heap.size + 2 ≤ (w5.setCell ⟨c, 3, none⟩ (.int .i64 M)).heap.size := by simpa using hz4
  generalize w5.setCell ⟨c, 3, none⟩ (.int .i64 M) = w6 at *
  clear H4 B4 hz4
  go_wp2_with fail
  refine (store_any c 2 after _ _ H6.1 H6.2.1).mono ?_
  rintro e w7 ⟨rfl, rfl⟩
  have H7 := H6.setAt hck hca (by omega) after
  have B7 := B6.setCell (p := ⟨c, 2, none⟩) bc (.int .i64 after)
  have hz7 : w.heap.size + 2 ≤ (w6.setCell ⟨c, 2, none⟩ (.int .i64 after)).heap.size := by simpa using hz6
  generalize w6.setCell ⟨c, 2, none⟩ (.int .i64 after) = w7 at *
  clear H6 B6 hz6
  go_wp2_with fail
  refine (derived_any c after _ N _ H7.2.2.1 hN hN0 hN1).mono ?_
  rintro e w8 ⟨rfl, rfl⟩
  have G7 := H7.2.2.2.2.2.2
  go_wp2_with fail
  go_region
  go_wp2
  go_ret2
  exact ⟨rfl, H7, B7.drew⟩

set_option maxRecDepth 100000 in
set_option maxHeartbeats 2000000 in
theorem full_raiseF_in (c k t a B : Nat) (n secs after before at0 cur M D X N : Int) (ad : Addr) (w : World)
    (h0 : 0 ≤ n) (h1 : n < 1000000000) (h2 : 0 ≤ secs) (h3 : secs < 4294967296)
    (hnow : w.cell? ⟨c, 0, none⟩ = some (.func (.func 10) #[] #[.pointer (some ⟨k, 0, none⟩), .pointer (some ⟨t, 0, none⟩), .pointer (some ⟨a, 0, none⟩)]))
    (hH : Held w c k a at0 cur 0 after ad) (hkf : w.frozen? ⟨k, 0, none⟩ = false) (ht : TimeAt w t n (59926608000 + secs))
    (lc : c < w.heap.size) (lk : k < w.heap.size) (lt : t < w.heap.size) (la : a < w.heap.size) (hck : c ≠ k) (hkt : k ≠ t) (hka : k ≠ a) (hca : c ≠ a) (hB : 0 < B) (bc : B ≤ c) (bk : B ≤ k)
    (hM : wrap64 (secs * 1000000000 + n - after) = M) (hD : wrap64 (after - before) = D) (hX : wrap64 (cur - 10000) = X) (hN : IntKind.u64.wrap (wrap64 (after + M)) = N) (hN0 : 0 ≤ N) (hN1 : N < 18446744073709551616)
    (q1 : cur < M) (q3 : 10000 < D) (q4 : N < 4294967296000000000) :
    Calls Ybad.prog 8 #[.pointer (some ⟨c, 0, none⟩), .int .i64 before] w fun e w' => e = .returned (.tuple #[.int .u64 (stamp (N / 1000000000) (N % 1000000000)), .nilIface]) ∧ Held w' c k a at0 M 1 after ad ∧ Below B w w' := by
  have hst := stamp_div secs n h2 h3 h0 h1
  have hk := hH.2.2.2.2.1
  have ha := hH.2.2.2.2.2.1
  have H1 := (((hH.count hck hka (by omega) 1).alloc (by simpa using lc) (by simpa using lk) (by simpa using la) (.cells #[.int .u64 n, .int .i64 (59926608000 + secs), .pointer none] 26)).alloc (by simp; omega) (by simp; omega) (by simp; omega) (.cells #[.int .u64 n, .int .i64 (59926608000 + secs), .pointer none] 26)).below (Below.refl (w.heap.size + 2) _).drew (by omega) (by omega) (by omega)
  have B1 : Below B w (((w.setCell ⟨k, 0, none⟩ (.int .i64 1)).alloc (.cells #[.int .u64 n, .int .i64 (59926608000 + secs), .pointer none] 26)).alloc (.cells #[.int .u64 n, .int .i64 (59926608000 + secs), .pointer none] 26)).drew :=
    ((((Below.refl B w).setCell (p := ⟨k, 0, none⟩) bk _).alloc (by simp; omega) _).alloc (by simp; omega) _).drew
  have T1 : TimeAt (((w.setCell ⟨k, 0, none⟩ (.int .i64 1)).alloc (.cells #[.int .u64 n, .int .i64 (59926608000 + secs), .pointer none] 26)).alloc (.cells #[.int .u64 n, .int .i64 (59926608000 + secs), .pointer none] 26)).drew (w.heap.size + 1) n (59926608000 + secs) :=
    ⟨by go_simp, by go_simp, by go_simp, by go_simp, by go_simp, by go_simp⟩
  go_enter Ybad.func8, Ybad.ntmps8
  go_wp2_with fail
  refine (clo10_any k t a n (59926608000 + secs) after _ hk hkf ht ha hkt hka lt la lk).mono ?_
  rintro e w1 ⟨rfl, rfl⟩
  go_wp2_with fail
  refine (fromTime_in n secs _ h0 h1 h2 h3).mono ?_
  rintro e w3 ⟨rfl, hb3⟩
  have hz3 : w.heap.size + 2 ≤ w3.heap.size := by have := hb3.size; simp at this; omega
  have H3 := H1.below hb3 (by simp; omega) (by simp; omega) (by simp; omega)
  have T3 := T1.below hb3 (by simp)
  have B3 : Below B w w3 := B1.trans (hb3.mono (by simp; omega))
  clear hb3 H1 B1 T1 hH hk ha hkf ht hnow
  obtain ⟨t0, t1, t2, -, -, -⟩ := T3
  go_wp2_with fail
  refine (nanosecond_any n (59926608000 + secs) _ h0 h1).mono ?_
  rintro e w4 ⟨rfl, rfl⟩
  have H4 := H3.alloc (by omega) (by omega) (by omega) (.cells #[.int .u64 n, .int .i64 (59926608000 + secs), .pointer none] 26)
  have B4 := B3.alloc (by omega) (.cells #[.int .u64 n, .int .i64 (59926608000 + secs), .pointer none] 26)
  have hz4 : w.heap.size + 2 ≤ (w3.alloc (.cells #[.int .u64 n, .int .i64 (59926608000 + secs), .pointer none] 26)).heap.size := by simp; omega
  generalize w3.alloc (.cells #[.int .u64 n, .int .i64 (59926608000 + secs), .pointer none] 26) = w4 at *
  clear t0 t1 t2 H3 B3 hz3
  go_wp2_with fail
  refine wp_loop_rounds 1 ?_
  rw [rounds_succ]
  go_wp2_with fail
  rw [hM]
  refine (load_any c 3 cur _ H4.2.2.1).mono ?_
  rintro e w5 ⟨rfl, rfl⟩
  go_wp2_with fail
  refine (cas_hit c 3 cur M _ H4.2.2.1 H4.2.2.2.1).mono ?_
  rintro e w6 ⟨rfl, rfl⟩
  have H6 := H4.setOff hck hca (by omega) M
  have B6 := B4.setCell (p := ⟨c, 3, none⟩) bc (.int .i64 M)
  have hz6 : w.heap.size + 2 ≤ (w5.setCell ⟨c, 3, none⟩ (.int .i64 M)).heap.size := by simpa using hz4
  generalize w5.setCell ⟨c, 3, none⟩ (.int .i64 M) = w6 at *
  clear H4 B4 hz4
  have H7 := H6
  have B7 := B6
  have hz7 := hz6
  clear H6 B6 hz6
  go_wp2_with fail
  refine (derived_any c after _ N _ H7.2.2.1 hN hN0 hN1).mono ?_
  rintro e w8 ⟨rfl, rfl⟩
  go_wp2_with fail
  go_ret2
  exact ⟨rfl, H7, B7⟩

set_option maxRecDepth 100000 in
set_option maxHeartbeats 2000000 in
theorem full_raiseF_out (c k t a B : Nat) (n secs after before at0 cur M D X N : Int) (ad : Addr) (w : World)
    (h0 : 0 ≤ n) (h1 : n < 1000000000) (h2 : 0 ≤ secs) (h3 : secs < 4294967296)
    (hnow : w.cell? ⟨c, 0, none⟩ = some (.func (.func 10) #[] #[.pointer (some ⟨k, 0, none⟩), .pointer (some ⟨t, 0, none⟩), .pointer (some ⟨a, 0, none⟩)]))
    (hH : Held w c k a at0 cur 0 after ad) (hkf : w.frozen? ⟨k, 0, none⟩ = false) (ht : TimeAt w t n (59926608000 + secs))
    (lc : c < w.heap.size) (lk : k < w.heap.size) (lt : t < w.heap.size) (la : a < w.heap.size) (hck : c ≠ k) (hkt : k ≠ t) (hka : k ≠ a) (hca : c ≠ a) (hB : 0 < B) (bc : B ≤ c) (bk : B ≤ k)
    (hM : wrap64 (secs * 1000000000 + n - after) = M) (hD : wrap64 (after - before) = D) (hX : wrap64 (cur - 10000) = X) (hN : IntKind.u64.wrap (wrap64 (after + M)) = N) (hN0 : 0 ≤ N) (hN1 : N < 18446744073709551616)
    (q1 : cur < M) (q3 : 10000 < D) (q4 : 4294967296000000000 ≤ N) :
    Calls Ybad.prog 8 #[.pointer (some ⟨c, 0, none⟩), .int .i64 before] w fun e w' => e = .returned (.tuple #[.int .u64 0, .iface 67 (.pointer (some ad))]) ∧ Held w' c k a at0 M 1 after ad ∧ Below B w w' := by
  have hst := stamp_div secs n h2 h3 h0 h1
  have hk := hH.2.2.2.2.1
  have ha := hH.2.2.2.2.2.1
  have H1 := (((hH.count hck hka (by omega) 1).alloc (by simpa using lc) (by simpa using lk) (by simpa using la) (.cells #[.int .u64 n, .int .i64 (59926608000 + secs), .pointer none] 26)).alloc (by simp; omega) (by simp; omega) (by simp; omega) (.cells #[.int .u64 n, .int .i64 (59926608000 + secs), .pointer none] 26)).below (Below.refl (w.heap.size + 2) _).drew (by omega) (by omega) (by omega)
  have B1 : Below B w (((w.setCell ⟨k, 0, none⟩ (.int .i64 1)).alloc (.cells #[.int .u64 n, .int .i64 (59926608000 + secs), .pointer none] 26)).alloc (.cells #[.int .u64 n, .int .i64 (59926608000 + secs), .pointer none] 26)).drew :=
    ((((Below.refl B w).setCell (p := ⟨k, 0, none⟩) bk _).alloc (by simp; omega) _).alloc (by simp; omega) _).drew
  have T1 : TimeAt (((w.setCell ⟨k, 0, none⟩ (.int .i64 1)).alloc (.cells #[.int .u64 n, .int .i64 (59926608000 + secs), .pointer none] 26)).alloc (.cells #[.int .u64 n, .int .i64 (59926608000 + secs), .pointer none] 26)).drew (w.heap.size + 1) n (59926608000 + secs) :=
    ⟨by go_simp, by go_simp, by go_simp, by go_simp, by go_simp, by go_simp⟩
  go_enter Ybad.func8, Ybad.ntmps8
  go_wp2_with fail
  refine (clo10_any k t a n (59926608000 + secs) after _ hk hkf ht ha hkt hka lt la lk).mono ?_
  rintro e w1 ⟨rfl, rfl⟩
  go_wp2_with fail
  refine (fromTime_in n secs _ h0 h1 h2 h3).mono ?_
  rintro e w3 ⟨rfl, hb3⟩
  have hz3 : w.heap.size + 2 ≤ w3.heap.size := by have := hb3.size; simp at this; omega
  have H3 := H1.below hb3 (by simp; omega) (by simp; omega) (by simp; omega)
  have T3 := T1.below hb3 (by simp)
  have B3 : Below B w w3 := B1.trans (hb3.mono (by simp; omega))
  clear hb3 H1 B1 T1 hH hk ha hkf ht hnow
  obtain ⟨t0, t1, t2, -, -, -⟩ := T3
  go_wp2_with fail
  refine (nanosecond_any n (59926608000 + secs) _ h0 h1).mono ?_
  rintro e w4 ⟨rfl, rfl⟩
  have H4 := H3.alloc (by omega) (by omega) (by omega) (.cells #[.int .u64 n, .int .i64 (59926608000 + secs), .pointer none] 26)
  have B4 := B3.alloc (by omega) (.cells #[.int .u64 n, .int .i64 (59926608000 + secs), .pointer none] 26)
  have hz4 : w.heap.size + 2 ≤ (w3.alloc (.cells #[.int .u64 n, .int .i64 (59926608000 + secs), .pointer none] 26)).heap.size := by simp; omega
  generalize w3.alloc (.cells #[.int .u64 n, .int .i64 (59926608000 + secs), .pointer none] 26) = w4 at *
  clear t0 t1 t2 H3 B3 hz3
  go_wp2_with fail
  refine wp_loop_rounds 1 ?_
  rw [rounds_succ]
  go_wp2_with fail
  rw [hM]
  refine (load_any c 3 cur _ H4.2.2.1).mono ?_
  rintro e w5 ⟨rfl, rfl⟩
  go_wp2_with fail
  refine (cas_hit c 3 cur M _ H4.2.2.1 H4.2.2.2.1).mono ?_
  rintro e w6 ⟨rfl, rfl⟩
  have H6 := H4.setOff hck hca (by omega) M
  have B6 := B4.setCell (p := ⟨c, 3, none⟩) bc (.int .i64 M)
  have hz6 : w.heap.size + 2 ≤ (w5.setCell ⟨c, 3, none⟩ (.int .i64 M)).heap.size := by simpa using hz4
  generalize w5.setCell ⟨c, 3, none⟩ (.int .i64 M) = w6 at *
  clear H4 B4 hz4
  have H7 := H6
  have B7 := B6
  have hz7 := hz6
  clear H6 B6 hz6
  go_wp2_with fail
  refine (derived_any c after _ N _ H7.2.2.1 hN hN0 hN1).mono ?_
  rintro e w8 ⟨rfl, rfl⟩
  have G7 := H7.2.2.2.2.2.2
  go_wp2_with fail
  go_region
  go_wp2
  go_ret2
  exact ⟨rfl, H7, B7.drew⟩

end Go.Proofs.YbulkiugDoor.Clo10
