/-
  The walk of LawS0471BWords (function 5): for every int: true, wherever fmt's text for the names is no longer than 1000 bytes.
-/
import Derived.Test.YbulkisqFmtWords
namespace Go.Proofs.YbulkisqFmt
open Go.RowKit Go.Extern.Stop Go.Stop Go.Extern

/-- The two rows go together. -/
def Pairs (n p q : Nat) (w : World) : Prop :=
  ∀ k, k < n → ∃ s : ByteArray, s.size ≤ 1000 ∧ w.cell? ⟨q, k, none⟩ = some (.string s) ∧ w.cell? ⟨p, k, none⟩ = some (.string (wordPre ++ s))

set_option maxHeartbeats 400000 in
theorem words_law (F : Interp) (a : Int) (w : World) (hF : F.answers w.tape) (hshort : ∀ k : Nat, k < 1024 → (FmtStop.textOf (F "fmt.Sprintf" (gpReading k) 0)).size ≤ 1000) :
    Calls Ybaf.prog 5 #[.int .i64 a] w fun e w' => e = .returned (.bool true) ∧ Below w.heap.size w w' := by
  by_cases h0 : a < 0
  · go_enter Ybaf.func5, Ybaf.ntmps5
    go_wp2
    go_ret
    exact ⟨rfl, Below.refl _ _⟩
  by_cases h1 : 1024 < a
  · go_enter Ybaf.func5, Ybaf.ntmps5
    go_wp2
    go_ret
    exact ⟨rfl, Below.refl _ _⟩
  obtain ⟨n, rfl⟩ := Int.eq_ofNat_of_zero_le (show 0 ≤ a by omega)
  have hn : n ≤ 1024 := by omega
  have HS : Hid (∀ k : Nat, k < n → (FmtStop.textOf (F "fmt.Sprintf" (gpReading k) 0)).size ≤ 1000) := fun k hk => hshort k (by omega)
  clear hshort
  go_enter Ybaf.func5, Ybaf.ntmps5
  go_wp2_with fail
  refine (words_any F n hn _ (by exact hF) HS.out).mono ?_
  rintro e w1 ⟨p, q, rfl, hcells, hb⟩
  have HC : Pairs n p q w1 := hcells
  clear hcells
  go_wp2
  go_loopw [5] (fun i wr => ∃ k : Nat, k ≤ n ∧ i = .int .i64 k ∧ Pairs n p q wr ∧ Below w.heap.size w wr) (fun i _ => n - (intOf i).toNat)
  case atStart => exact ⟨0, Nat.zero_le _, rfl, HC, hb⟩
  case round =>
    obtain ⟨k, hk, rfl, HCr, hbr⟩ := hrel
    clear hb HC
    by_cases hlt : k < n
    · obtain ⟨s, hs, hc1, hc2⟩ := HCr k hlt
      have hadd := fun (wx : World) => run_string_add_sum (P := Ybaf.prog) wx ⟨#[117, 110, 115, 105, 103, 110, 101, 100, 32, 108, 111, 110, 103, 32]⟩ s (pre_sum s hs)
      have hc2' : wr.cell? ⟨p, k, none⟩ = some (.string (⟨#[117, 110, 115, 105, 103, 110, 101, 100, 32, 108, 111, 110, 103, 32]⟩ ++ s)) := hc2
      clear hc2
      go_wp2
      go_region
      go_wp2
      go_roundw
      case rel => exact ⟨k + 1, by omega, by go_num, HCr, hbr.drew⟩
      case measure => simp [intOf]; omega
    · go_wp2
      go_ret
      exact ⟨rfl, hbr⟩
end Go.Proofs.YbulkisqFmt
