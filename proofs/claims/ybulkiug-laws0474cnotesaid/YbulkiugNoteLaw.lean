/-
  The walk of LawS0474CNote (function 5).
-/
import Derived.Test.YbulkiugNote
import Derived.Test.YbulkiugNotePlain
namespace Go.Proofs.Ybulkiug
open Go.RowKit

/-- the zero core: 147 cells, of which two are read -/
theorem zero_core : ∃ cs : Array Value, (∀ w, (zeroValue 48).run Yba.prog w = .ok (.agg cs) w) ∧ cs[139]? = some (.int .u64 0) ∧ cs[145]? = some (.int .u64 0) :=
  ⟨⟨[.int .u64 0, .bool false, .pointer none, .nilFunc, .int .i64 0, .int .u64 0, .int .u64 0, .int .u64 0, .int .u64 0, .pointer none] ++ List.replicate 64 (.int .u8 0) ++ [.int .u64 0] ++ List.replicate 64 (.int .u8 0) ++ List.replicate 8 (.int .u64 0)⟩,
    fun w => by kernel_rfl, by kernel_rfl, by kernel_rfl⟩

theorem core_cells (cs : Array Value) (x y u v : Value) (h1 : cs[139]? = some u) (h2 : cs[145]? = some v) (w : World) :
    (w.alloc (.cells ((cs.setIfInBounds 139 x).setIfInBounds 145 y) 48)).cell? ⟨w.heap.size, 139, none⟩ = some x ∧
    (w.alloc (.cells ((cs.setIfInBounds 139 x).setIfInBounds 145 y) 48)).cell? ⟨w.heap.size, 145, none⟩ = some y := by
  have b1 := (Array.getElem?_eq_some_iff.1 h1).1
  have b2 := (Array.getElem?_eq_some_iff.1 h2).1
  constructor
  · rw [World.cell?_alloc_at (hn := rfl)]
    simp [b1]
  · rw [World.cell?_alloc_at (hn := rfl)]
    simp [b2]

set_option maxRecDepth 100000 in
set_option maxHeartbeats 1000000 in
theorem cnote_nil (last prev hi lo steps P C : Int) (w : World)
    (hP : bits .or .u64 (IntKind.u64.wrap (hi * 4194304)) (bits .and .u64 lo 4194303) = P) (hC : bits .and .u64 hi 4398046511103 = C) (hP0 : 0 ≤ P) (hP1 : P < 18446744073709551616) (HPC : Hid (P / 4194304 = C)) (w3 : 0 ≤ lo) (w3' : lo < 4294967296)
    (L S : Int) (HL : Hid (newLast last prev C = L)) (HS : Hid (newSteps steps prev C = S)) :
    Calls Yba.prog 5 #[.int .u64 last, .int .u64 prev, .int .u64 hi, .int .u32 lo, .int .u64 steps, .bool false, .bool false] w fun e w' => e = .returned (.bool true) ∧ Below w.heap.size w w' := by
  obtain ⟨cs, hzero, hc1, hc2⟩ := zero_core
  have KC := core_cells cs (.int .u64 last) (.int .u64 steps) _ _ hc1 hc2 w
  obtain ⟨KL, KS⟩ : Hid _ ∧ Hid _ := KC
  go_enter Yba.func5, Yba.ntmps5
  go_wp2_with fail
  refine (store_any w.heap.size 139 last (.int .u64 0) _ (by go_simp) (by go_simp)).mono ?_
  rintro e w' ⟨rfl, rfl⟩
  go_wp2_with fail
  refine (store_any w.heap.size 145 steps (.int .u64 0) _ (by go_simp) (by go_simp)).mono ?_
  rintro e w' ⟨rfl, rfl⟩
  go_wp2_with fail
  refine (note_nil w.heap.size prev P last steps _ hP0 hP1 (by exact KL.out) (by go_simp) (by exact KS.out) (by go_simp)).mono ?_
  rw [HPC.out, HL.out, HS.out]
  rintro e w2 ⟨rfl, hl, hs, hb⟩
  have hb2 : Below w.heap.size w w2 := ((Below.refl _ _).alloc (Nat.le_refl _) _).trans hb
  clear hb
  go_wp2_with fail
  · have h1 : (C != prev) = true := by assumption
    have h2 : C < prev := by assumption
    have h3 : (last == prev) = true := by assumption
    obtain rfl : C = L := by rw [← HL.out]; unfold newLast; rw [if_pos ⟨bne_iff_ne.1 h1, beq_iff_eq.1 h3⟩]
    obtain rfl : IntKind.u64.wrap (steps + 1) = S := by rw [← HS.out]; unfold newSteps; rw [if_pos h2]
    clear HL HS
    refine (load_any w.heap.size 139 _ _ hl).mono ?_
    rintro e w3 ⟨rfl, rfl⟩
    go_wp2_with fail
    refine (load_any w.heap.size 145 _ _ hs).mono ?_
    rintro e w4 ⟨rfl, rfl⟩
    go_wp2_with fail
    go_ret
    exact ⟨by simp, hb2⟩
  · have h1 : (C != prev) = true := by assumption
    have h2 : C < prev := by assumption
    have h3 : (last == prev) = false := by assumption
    obtain rfl : last = L := by rw [← HL.out]; unfold newLast; rw [if_neg (fun h => beq_eq_false_iff_ne.1 h3 h.2)]
    obtain rfl : IntKind.u64.wrap (steps + 1) = S := by rw [← HS.out]; unfold newSteps; rw [if_pos h2]
    clear HL HS
    refine (load_any w.heap.size 139 _ _ hl).mono ?_
    rintro e w3 ⟨rfl, rfl⟩
    go_wp2_with fail
    refine (load_any w.heap.size 145 _ _ hs).mono ?_
    rintro e w4 ⟨rfl, rfl⟩
    go_wp2_with fail
    go_ret
    exact ⟨by simp, hb2⟩
  · have h1 : (C != prev) = true := by assumption
    have h2 : prev ≤ C := by assumption
    have h3 : (last == prev) = true := by assumption
    obtain rfl : C = L := by rw [← HL.out]; unfold newLast; rw [if_pos ⟨bne_iff_ne.1 h1, beq_iff_eq.1 h3⟩]
    obtain rfl : steps = S := by rw [← HS.out]; unfold newSteps; rw [if_neg (by omega)]
    clear HL HS
    refine (load_any w.heap.size 139 _ _ hl).mono ?_
    rintro e w3 ⟨rfl, rfl⟩
    go_wp2_with fail
    refine (load_any w.heap.size 145 _ _ hs).mono ?_
    rintro e w4 ⟨rfl, rfl⟩
    go_wp2_with fail
    go_ret
    exact ⟨by simp, hb2⟩
  · have h1 : (C != prev) = true := by assumption
    have h2 : prev ≤ C := by assumption
    have h3 : (last == prev) = false := by assumption
    obtain rfl : last = L := by rw [← HL.out]; unfold newLast; rw [if_neg (fun h => beq_eq_false_iff_ne.1 h3 h.2)]
    obtain rfl : steps = S := by rw [← HS.out]; unfold newSteps; rw [if_neg (by omega)]
    clear HL HS
    refine (load_any w.heap.size 139 _ _ hl).mono ?_
    rintro e w3 ⟨rfl, rfl⟩
    go_wp2_with fail
    refine (load_any w.heap.size 145 _ _ hs).mono ?_
    rintro e w4 ⟨rfl, rfl⟩
    go_wp2_with fail
    go_ret
    exact ⟨by simp, hb2⟩
  · have h1 : (C != prev) = false := by assumption
    have h2 : C = prev := by simpa using h1
    obtain rfl : last = L := by rw [← HL.out]; unfold newLast; rw [if_neg (fun h => h.1 (by simpa using h1))]
    obtain rfl : steps = S := by rw [← HS.out]; unfold newSteps; rw [if_neg (by omega)]
    clear HL HS
    refine (load_any w.heap.size 139 _ _ hl).mono ?_
    rintro e w3 ⟨rfl, rfl⟩
    go_wp2_with fail
    refine (load_any w.heap.size 145 _ _ hs).mono ?_
    rintro e w4 ⟨rfl, rfl⟩
    go_wp2_with fail
    go_ret
    exact ⟨by simp, hb2⟩

set_option maxRecDepth 100000 in
set_option maxHeartbeats 1000000 in
theorem cnote_same (last prev hi lo steps P C : Int) (w : World)
    (hP : bits .or .u64 (IntKind.u64.wrap (hi * 4194304)) (bits .and .u64 lo 4194303) = P) (hC : bits .and .u64 hi 4398046511103 = C) (hP0 : 0 ≤ P) (hP1 : P < 18446744073709551616) (HPC : Hid (P / 4194304 = C)) (w3 : 0 ≤ lo) (w3' : lo < 4294967296)
    (L S : Int) (HL : Hid (newLast last last C = L)) (HS : Hid (newSteps steps last C = S)) :
    Calls Yba.prog 5 #[.int .u64 last, .int .u64 prev, .int .u64 hi, .int .u32 lo, .int .u64 steps, .bool true, .bool false] w fun e w' => e = .returned (.bool true) ∧ Below w.heap.size w w' := by
  obtain ⟨cs, hzero, hc1, hc2⟩ := zero_core
  have KC := core_cells cs (.int .u64 last) (.int .u64 steps) _ _ hc1 hc2 w
  obtain ⟨KL, KS⟩ : Hid _ ∧ Hid _ := KC
  go_enter Yba.func5, Yba.ntmps5
  go_wp2_with fail
  refine (store_any w.heap.size 139 last (.int .u64 0) _ (by go_simp) (by go_simp)).mono ?_
  rintro e w' ⟨rfl, rfl⟩
  go_wp2_with fail
  refine (store_any w.heap.size 145 steps (.int .u64 0) _ (by go_simp) (by go_simp)).mono ?_
  rintro e w' ⟨rfl, rfl⟩
  go_wp2_with fail
  refine (note_nil w.heap.size last P last steps _ hP0 hP1 (by exact KL.out) (by go_simp) (by exact KS.out) (by go_simp)).mono ?_
  rw [HPC.out, HL.out, HS.out]
  rintro e w2 ⟨rfl, hl, hs, hb⟩
  have hb2 : Below w.heap.size w w2 := ((Below.refl _ _).alloc (Nat.le_refl _) _).trans hb
  clear hb
  go_wp2_with fail
  · have h1 : (C != last) = true := by assumption
    have h2 : C < last := by assumption
    obtain rfl : C = L := by rw [← HL.out]; unfold newLast; rw [if_pos ⟨bne_iff_ne.1 h1, rfl⟩]
    obtain rfl : IntKind.u64.wrap (steps + 1) = S := by rw [← HS.out]; unfold newSteps; rw [if_pos h2]
    clear HL HS
    refine (load_any w.heap.size 139 _ _ hl).mono ?_
    rintro e w3 ⟨rfl, rfl⟩
    go_wp2_with fail
    refine (load_any w.heap.size 145 _ _ hs).mono ?_
    rintro e w4 ⟨rfl, rfl⟩
    go_wp2_with fail
    go_ret
    exact ⟨by simp, hb2⟩
  · have h1 : (C != last) = true := by assumption
    have h2 : last ≤ C := by assumption
    obtain rfl : C = L := by rw [← HL.out]; unfold newLast; rw [if_pos ⟨bne_iff_ne.1 h1, rfl⟩]
    obtain rfl : steps = S := by rw [← HS.out]; unfold newSteps; rw [if_neg (by omega)]
    clear HL HS
    refine (load_any w.heap.size 139 _ _ hl).mono ?_
    rintro e w3 ⟨rfl, rfl⟩
    go_wp2_with fail
    refine (load_any w.heap.size 145 _ _ hs).mono ?_
    rintro e w4 ⟨rfl, rfl⟩
    go_wp2_with fail
    go_ret
    exact ⟨by simp, hb2⟩
  · have h1 : (C != last) = false := by assumption
    have h2 : C = last := by simpa using h1
    obtain rfl : last = L := by rw [← HL.out]; unfold newLast; rw [if_neg (fun h => h.1 (by simpa using h1))]
    obtain rfl : steps = S := by rw [← HS.out]; unfold newSteps; rw [if_neg (by omega)]
    clear HL HS
    refine (load_any w.heap.size 139 _ _ hl).mono ?_
    rintro e w3 ⟨rfl, rfl⟩
    go_wp2_with fail
    refine (load_any w.heap.size 145 _ _ hs).mono ?_
    rintro e w4 ⟨rfl, rfl⟩
    go_wp2_with fail
    go_ret
    exact ⟨by simp, hb2⟩

set_option maxRecDepth 100000 in
set_option maxHeartbeats 1000000 in
theorem cnote_fail (last prev hi lo steps P C : Int) (w : World)
    (hP : bits .or .u64 (IntKind.u64.wrap (hi * 4194304)) (bits .and .u64 lo 4194303) = P) (hC : bits .and .u64 hi 4398046511103 = C) (w3 : 0 ≤ lo) (w3' : lo < 4294967296) :
    Calls Yba.prog 5 #[.int .u64 last, .int .u64 prev, .int .u64 hi, .int .u32 lo, .int .u64 steps, .bool false, .bool true] w fun e w' => e = .returned (.bool true) ∧ Below w.heap.size w w' := by
  obtain ⟨cs, hzero, hc1, hc2⟩ := zero_core
  have KC := core_cells cs (.int .u64 last) (.int .u64 steps) _ _ hc1 hc2 w
  obtain ⟨KL, KS⟩ : Hid _ ∧ Hid _ := KC
  go_enter Yba.func5, Yba.ntmps5
  go_wp2_with fail
  refine (store_any w.heap.size 139 last (.int .u64 0) _ (by go_simp) (by go_simp)).mono ?_
  rintro e w' ⟨rfl, rfl⟩
  go_wp2_with fail
  refine (store_any w.heap.size 145 steps (.int .u64 0) _ (by go_simp) (by go_simp)).mono ?_
  rintro e w' ⟨rfl, rfl⟩
  go_wp2_with fail
  refine (errNew_any _ _).mono ?_
  rintro e w' ⟨rfl, rfl⟩
  go_wp2_with fail
  refine (note_err w.heap.size _ _ _ _).mono ?_
  rintro e w2 ⟨rfl, rfl⟩
  go_wp2_with fail
  refine (load_any w.heap.size 139 last _ (by rw [World.cell?_alloc_lt (h := by simp)]; exact KL.out)).mono ?_
  rintro e w3 ⟨rfl, rfl⟩
  go_wp2_with fail
  refine (load_any w.heap.size 145 steps _ (by rw [World.cell?_alloc_lt (h := by simp)]; exact KS.out)).mono ?_
  rintro e w4 ⟨rfl, rfl⟩
  go_wp2_with fail
  go_ret
  exact ⟨by simp, ((Below.refl _ _).alloc (Nat.le_refl _) _).alloc (by simp) _⟩

set_option maxRecDepth 100000 in
set_option maxHeartbeats 1000000 in
theorem cnote_fail_same (last prev hi lo steps P C : Int) (w : World)
    (hP : bits .or .u64 (IntKind.u64.wrap (hi * 4194304)) (bits .and .u64 lo 4194303) = P) (hC : bits .and .u64 hi 4398046511103 = C) (w3 : 0 ≤ lo) (w3' : lo < 4294967296) :
    Calls Yba.prog 5 #[.int .u64 last, .int .u64 prev, .int .u64 hi, .int .u32 lo, .int .u64 steps, .bool true, .bool true] w fun e w' => e = .returned (.bool true) ∧ Below w.heap.size w w' := by
  obtain ⟨cs, hzero, hc1, hc2⟩ := zero_core
  have KC := core_cells cs (.int .u64 last) (.int .u64 steps) _ _ hc1 hc2 w
  obtain ⟨KL, KS⟩ : Hid _ ∧ Hid _ := KC
  go_enter Yba.func5, Yba.ntmps5
  go_wp2_with fail
  refine (store_any w.heap.size 139 last (.int .u64 0) _ (by go_simp) (by go_simp)).mono ?_
  rintro e w' ⟨rfl, rfl⟩
  go_wp2_with fail
  refine (store_any w.heap.size 145 steps (.int .u64 0) _ (by go_simp) (by go_simp)).mono ?_
  rintro e w' ⟨rfl, rfl⟩
  go_wp2_with fail
  refine (errNew_any _ _).mono ?_
  rintro e w' ⟨rfl, rfl⟩
  go_wp2_with fail
  refine (note_err w.heap.size _ _ _ _).mono ?_
  rintro e w2 ⟨rfl, rfl⟩
  go_wp2_with fail
  refine (load_any w.heap.size 139 last _ (by rw [World.cell?_alloc_lt (h := by simp)]; exact KL.out)).mono ?_
  rintro e w3 ⟨rfl, rfl⟩
  go_wp2_with fail
  refine (load_any w.heap.size 145 steps _ (by rw [World.cell?_alloc_lt (h := by simp)]; exact KS.out)).mono ?_
  rintro e w4 ⟨rfl, rfl⟩
  go_wp2_with fail
  go_ret
  exact ⟨by simp, ((Below.refl _ _).alloc (Nat.le_refl _) _).alloc (by simp) _⟩

/-- for every input -/
theorem cnote_any (last prev hi lo steps : Int) (same fails : Bool) (w : World) (w2 : 0 ≤ hi) (w2' : hi < 18446744073709551616) (w3 : 0 ≤ lo) (w3' : lo < 4294967296) :
    Calls Yba.prog 5 #[.int .u64 last, .int .u64 prev, .int .u64 hi, .int .u32 lo, .int .u64 steps, .bool same, .bool fails] w fun e w' => e = .returned (.bool true) ∧ Below w.heap.size w w' := by
  obtain ⟨P, C, hP, hC, hP0, hP1, hPC⟩ := pt_div hi lo w2 w2' w3 w3'
  cases same <;> cases fails
  · exact cnote_nil last prev hi lo steps P C w hP hC hP0 hP1 hPC w3 w3' _ _ rfl rfl
  · exact cnote_fail last prev hi lo steps P C w hP hC w3 w3'
  · exact cnote_same last prev hi lo steps P C w hP hC hP0 hP1 hPC w3 w3' _ _ rfl rfl
  · exact cnote_fail_same last prev hi lo steps P C w hP hC w3 w3'
end Go.Proofs.Ybulkiug
