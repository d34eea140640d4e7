/-
  variadicWords (function 7): for 0 <= n <= 1024 it hands back two rows of its own of n strings each; the i-th of the first is the fixed word ahead of the i-th of the second.
-/
import Derived.Test.YbulkisqFmtSprintf
namespace Go.Proofs.YbulkisqFmt
open Go.RowKit Go.Extern.Stop Go.Stop Go.Extern

theorem Ybaf.info9w : (Ybaf.prog.info? 9).map (fun i => (i.zero, i.size, i.bytes)) = some (some (.string ⟨#[]⟩), 1, 16) := by kernel_rfl

/-- n empty strings -/
def emptyRow (n : Nat) : Array Value := madeCells (Value.string ⟨#[]⟩).cells (n * 1)

theorem make_strings (n : Nat) (hn : n ≤ 1024) (w : World) :
    (Instr.makeSlice 22 (.int .i64 (n : Int)) (.int .i64 (n : Int))).run Ybaf.prog w = .ok (.slice (some ⟨w.heap.size, 0, none⟩) n n) (w.alloc (.cells (emptyRow n) 9)) := by
  obtain ⟨i0, hi, hz0, hz1, hz2⟩ := info_parts Ybaf.info9w
  have hr := run_make (P := Ybaf.prog) w 22 9 i0 _ Ybaf.underlying22 hi hz0 .i64 .i64 n n (by omega) (Int.le_refl _) (by rw [hz2]; omega) (by omega)
  simp only [Int.toNat_natCast, hz1] at hr
  exact hr

/-- 'unsigned long ' -/
def wordPre : ByteArray := ⟨#[117, 110, 115, 105, 103, 110, 101, 100, 32, 108, 111, 110, 103, 32]⟩

/-- What holds ahead of round k: p owns the parameters' row, q the names' row; below k they go together. -/
def Rel (w : World) (n p q k : Nat) (wr : World) : Prop :=
  ∃ ps ns : List Value, wr.ownsRow w.heap.size 9 1 (.slice (some ⟨p, 0, none⟩) n n) n ps ∧ wr.ownsRow w.heap.size 9 1 (.slice (some ⟨q, 0, none⟩) n n) n ns ∧
    (∀ j, j < k → ∃ s : ByteArray, s.size ≤ 1000 ∧ ns[j]? = some (.string s) ∧ ps[j]? = some (.string (wordPre ++ s))) ∧ Below w.heap.size w wr

theorem rel_step {w wr : World} {n p q k : Nat} (hpq : p ≠ q) (h : Rel w n p q k wr) (hk : k < n) (s : ByteArray) (hs : s.size ≤ 1000) (o : Obj) :
    Rel w n p q (k + 1) (((wr.setCell ⟨q, k, none⟩ (.string s)).setCell ⟨p, k, none⟩ (.string (wordPre ++ s))).alloc o).drew := by
  obtain ⟨ps, ns, h1, h2, h3, hb⟩ := h
  have l1 := h1.1
  have l2 := h2.1
  have bp := (h1.lt p rfl).1
  have bq := (h2.lt q rfl).1
  have zp := (h1.lt p rfl).2
  have zq := (h2.lt q rfl).2
  have a2 := h2.stored k (.string s)
  have a1 := h1.kept a2.2 (by right; simp [Value.ownBlock]; omega)
  have b1 := a1.stored k (.string (wordPre ++ s))
  have b2 := a2.1.kept b1.2 (by right; simp [Value.ownBlock]; omega)
  refine ⟨_, _, (b1.1.alloc _).drew, (b2.alloc _).drew, ?_, (((hb.setCell (p := ⟨q, k, none⟩) bq _).setCell (p := ⟨p, k, none⟩) bp _).alloc (by simp [World.setCell]; omega) _).drew⟩
  intro j hj
  by_cases e : j = k
  · subst e
    exact ⟨s, hs, List.getElem?_set_self (by omega), List.getElem?_set_self (by omega)⟩
  · obtain ⟨s', hs', e1, e2⟩ := h3 j (by omega)
    exact ⟨s', hs', by rw [List.getElem?_set_ne (by omega)]; exact e1, by rw [List.getElem?_set_ne (by omega)]; exact e2⟩

theorem emptyRow_size (n : Nat) : (emptyRow n).size = n := by unfold emptyRow; rw [size_madeCells]; omega

theorem rel_start (w : World) (n : Nat) (hn : n ≤ 1024) :
    Rel w n w.heap.size (w.heap.size + 1) 0 ((w.alloc (.cells (emptyRow n) 9)).alloc (.cells (emptyRow n) 9)).drew ∧
    Rel w n (w.heap.size + 1) w.heap.size 0 ((w.alloc (.cells (emptyRow n) 9)).alloc (.cells (emptyRow n) 9)).drew := by
  have hm : n ≤ maxLen := by unfold maxLen; omega
  have a0 := (World.ownsRow_lit (base := w.heap.size) (e := 9) (size := 1) w (emptyRow n) n (Nat.le_refl _) hm (by rw [emptyRow_size]; omega)).alloc (.cells (emptyRow n) 9)
  have a1 := World.ownsRow_lit (base := w.heap.size) (e := 9) (size := 1) (w.alloc (.cells (emptyRow n) 9)) (emptyRow n) n (by simp) hm (by rw [emptyRow_size]; omega)
  have hsz : (w.alloc (.cells (emptyRow n) 9)).heap.size = w.heap.size + 1 := by simp
  rw [hsz] at a1
  have hb : Below w.heap.size w ((w.alloc (.cells (emptyRow n) 9)).alloc (.cells (emptyRow n) 9)).drew := (((Below.refl _ _).alloc (Nat.le_refl _) _).alloc (by simp) _).drew
  exact ⟨⟨_, _, a0.drew, a1.drew, fun j hj => by omega, hb⟩, ⟨_, _, a1.drew, a0.drew, fun j hj => by omega, hb⟩⟩

theorem rel_end {w wr : World} {n p q : Nat} (h : Rel w n p q n wr) :
    (∀ k, k < n → ∃ s : ByteArray, s.size ≤ 1000 ∧ wr.cell? ⟨q, k, none⟩ = some (.string s) ∧ wr.cell? ⟨p, k, none⟩ = some (.string (wordPre ++ s))) ∧ Below w.heap.size w wr := by
  obtain ⟨ps, ns, h1, h2, h3, hb⟩ := h
  refine ⟨fun k hk => ?_, hb⟩
  obtain ⟨s, hs, e1, e2⟩ := h3 k hk
  exact ⟨s, hs, by rw [h2.cellAt k (by omega)]; exact e1, by rw [h1.cellAt k (by omega)]; exact e2⟩

theorem pre_sum (s : ByteArray) (hs : s.size ≤ 1000) : wordPre.size + s.size ≤ 9223372036854775807 := by
  have : wordPre.size = 14 := by decide
  omega

set_option maxHeartbeats 400000 in
theorem words_any (F : Interp) (n : Nat) (hn : n ≤ 1024) (w : World) (hF : F.answers w.tape) (hshort : ∀ k : Nat, k < n → (FmtStop.textOf (F "fmt.Sprintf" (gpReading k) 0)).size ≤ 1000) :
    Calls Ybaf.prog 7 #[.int .i64 n] w fun e w' => ∃ p q : Nat, e = .returned (.tuple #[.slice (some ⟨p, 0, none⟩) n n, .slice (some ⟨q, 0, none⟩) n n]) ∧
      (∀ k, k < n → ∃ s : ByteArray, s.size ≤ 1000 ∧ w'.cell? ⟨q, k, none⟩ = some (.string s) ∧ w'.cell? ⟨p, k, none⟩ = some (.string (wordPre ++ s))) ∧ Below w.heap.size w w' := by
  have hmk := make_strings n hn
  have HS : Hid (∀ k : Nat, k < n → (FmtStop.textOf (F "fmt.Sprintf" (gpReading k) 0)).size ≤ 1000) := hshort
  clear hshort
  go_enter Ybaf.func7, Ybaf.ntmps7
  go_wp2
  go_region
  · go_wp2
    go_loopw [11] (fun i wr => ∃ k : Nat, k ≤ n ∧ i = .int .i64 k ∧ Rel w n (w.heap.size) (w.heap.size + 1) k wr) (fun i _ => n - (intOf i).toNat)
    case atStart => exact ⟨0, Nat.zero_le _, rfl, (rel_start w n hn).1⟩
    case round =>
      obtain ⟨k, hk, rfl, hrel⟩ := hrel
      have hF' : F.answers wr.tape := by obtain ⟨_, _, _, _, _, hb⟩ := hrel; rw [hb.tape]; exact hF
      obtain ⟨hp1, hp2, hq1, hq2⟩ : (w.heap.size) < wr.heap.size ∧ (∀ j, wr.frozen? ⟨w.heap.size, j, none⟩ = false) ∧ (w.heap.size + 1) < wr.heap.size ∧ (∀ j, wr.frozen? ⟨w.heap.size + 1, j, none⟩ = false) := by
        obtain ⟨ps, ns, h1, h2, _, _⟩ := hrel
        exact ⟨(h1.lt _ rfl).2, h1.frozenAt, (h2.lt _ rfl).2, h2.frozenAt⟩
      by_cases hlt : k < n
      · obtain ⟨v1, v2, hc1, hc2⟩ : ∃ v1 v2, wr.cell? ⟨w.heap.size, k, none⟩ = some v1 ∧ wr.cell? ⟨w.heap.size + 1, k, none⟩ = some v2 := by
          obtain ⟨ps, ns, h1, h2, _, _⟩ := hrel
          have l1 := h1.1
          have l2 := h2.1
          exact ⟨ps[k]'(by omega), ns[k]'(by omega), by rw [h1.cellAt k (by omega)]; exact List.getElem?_eq_getElem _, by rw [h2.cellAt k (by omega)]; exact List.getElem?_eq_getElem _⟩
        go_wp2_with fail
        refine (gp_any F k _ (by exact hF')).mono ?_
        rintro e w1 ⟨rfl, rfl⟩
        have hs := HS.out k hlt
        generalize FmtStop.textOf (F "fmt.Sprintf" (gpReading k) 0) = s at *
        have hadd := fun (wx : World) => run_string_add_sum (P := Ybaf.prog) wx ⟨#[117, 110, 115, 105, 103, 110, 101, 100, 32, 108, 111, 110, 103, 32]⟩ s (pre_sum s hs)
        go_wp2
        have R := rel_step (by omega) hrel hlt s hs
        go_roundw
        case rel => exact ⟨k + 1, by omega, by go_num, R _⟩
        case measure => simp [intOf]; omega
      · obtain rfl : k = n := by omega
        go_wp2
        go_ret2
        exact ⟨_, _, rfl, rel_end hrel⟩
  · go_wp2
    go_loopw [11] (fun i wr => ∃ k : Nat, k ≤ n ∧ i = .int .i64 k ∧ Rel w n (w.heap.size + 1) (w.heap.size) k wr) (fun i _ => n - (intOf i).toNat)
    case atStart => exact ⟨0, Nat.zero_le _, rfl, (rel_start w n hn).2⟩
    case round =>
      obtain ⟨k, hk, rfl, hrel⟩ := hrel
      have hF' : F.answers wr.tape := by obtain ⟨_, _, _, _, _, hb⟩ := hrel; rw [hb.tape]; exact hF
      obtain ⟨hp1, hp2, hq1, hq2⟩ : (w.heap.size + 1) < wr.heap.size ∧ (∀ j, wr.frozen? ⟨w.heap.size + 1, j, none⟩ = false) ∧ (w.heap.size) < wr.heap.size ∧ (∀ j, wr.frozen? ⟨w.heap.size, j, none⟩ = false) := by
        obtain ⟨ps, ns, h1, h2, _, _⟩ := hrel
        exact ⟨(h1.lt _ rfl).2, h1.frozenAt, (h2.lt _ rfl).2, h2.frozenAt⟩
      by_cases hlt : k < n
      · obtain ⟨v1, v2, hc1, hc2⟩ : ∃ v1 v2, wr.cell? ⟨w.heap.size + 1, k, none⟩ = some v1 ∧ wr.cell? ⟨w.heap.size, k, none⟩ = some v2 := by
          obtain ⟨ps, ns, h1, h2, _, _⟩ := hrel
          have l1 := h1.1
          have l2 := h2.1
          exact ⟨ps[k]'(by omega), ns[k]'(by omega), by rw [h1.cellAt k (by omega)]; exact List.getElem?_eq_getElem _, by rw [h2.cellAt k (by omega)]; exact List.getElem?_eq_getElem _⟩
        go_wp2_with fail
        refine (gp_any F k _ (by exact hF')).mono ?_
        rintro e w1 ⟨rfl, rfl⟩
        have hs := HS.out k hlt
        generalize FmtStop.textOf (F "fmt.Sprintf" (gpReading k) 0) = s at *
        have hadd := fun (wx : World) => run_string_add_sum (P := Ybaf.prog) wx ⟨#[117, 110, 115, 105, 103, 110, 101, 100, 32, 108, 111, 110, 103, 32]⟩ s (pre_sum s hs)
        go_wp2
        have R := rel_step (by omega) hrel hlt s hs
        go_roundw
        case rel => exact ⟨k + 1, by omega, by go_num, R _⟩
        case measure => simp [intOf]; omega
      · obtain rfl : k = n := by omega
        go_wp2
        go_ret2
        exact ⟨_, _, rfl, rel_end hrel⟩
end Go.Proofs.YbulkisqFmt
