/-
  The walks of LawS0471ALength (function 3) and LawS0471ALastWord (function 4): for every int, FOR EVERY F: true.
-/
import Derived.Test.YbulkisqFmtTail
namespace Go.Proofs.YbulkisqFmt
open Go.RowKit Go.Extern.Stop Go.Stop Go.Extern

set_option maxHeartbeats 400000 in
theorem length_any (F : Interp) (a : Int) (w : World) (hF : F.answers w.tape) :
    Calls Ybaf.prog 3 #[.int .i64 a] w fun e w' => e = .returned (.bool true) ∧ Below w.heap.size w w' := by
  by_cases h0 : a < 0
  · go_enter Ybaf.func3, Ybaf.ntmps3
    go_wp2
    go_ret
    exact ⟨rfl, Below.refl _ _⟩
  by_cases h1 : 1024 < a
  · go_enter Ybaf.func3, Ybaf.ntmps3
    go_wp2
    go_ret
    exact ⟨rfl, Below.refl _ _⟩
  obtain ⟨n, rfl⟩ := Int.eq_ofNat_of_zero_le (show 0 ≤ a by omega)
  have hn : n ≤ 1024 := by omega
  go_enter Ybaf.func3, Ybaf.ntmps3
  go_wp2_with (go_at_call 6; refine (tail_any F n hn _ (by exact hF)).mono ?_; rintro e w1 ⟨rfl, -, hb⟩)
  go_ret
  exact ⟨by simp, hb⟩

set_option maxHeartbeats 400000 in
theorem lastWord_any (F : Interp) (a : Int) (w : World) (hF : F.answers w.tape) :
    Calls Ybaf.prog 4 #[.int .i64 a] w fun e w' => e = .returned (.bool true) ∧ Below w.heap.size w w' := by
  by_cases h0 : a < 0
  · go_enter Ybaf.func4, Ybaf.ntmps4
    go_wp2
    go_ret
    exact ⟨rfl, Below.refl _ _⟩
  by_cases h1 : 1024 < a
  · go_enter Ybaf.func4, Ybaf.ntmps4
    go_wp2
    go_ret
    exact ⟨rfl, Below.refl _ _⟩
  obtain ⟨n, rfl⟩ := Int.eq_ofNat_of_zero_le (show 0 ≤ a by omega)
  have hn : n ≤ 1024 := by omega
  go_enter Ybaf.func4, Ybaf.ntmps4
  go_wp2_with fail
  refine (tail_any F n hn _ (by exact hF)).mono ?_
  rintro e w1 ⟨rfl, ⟨xs, hxs, hown⟩, hb⟩
  have hc : w1.cell? ⟨w.heap.size, n, none⟩ = some (.string lastWord) := by rw [hown.cellAt n (by omega)]; simp [← hxs]
  go_wp2
  go_ret
  exact ⟨by simp [lastWord], hb⟩
end Go.Proofs.YbulkisqFmt
