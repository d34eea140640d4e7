/-
  time.Time's own functions where no monotonic reading is in the value: nsec (20), stripMono (22), sec (26), unixSec (27), addSec (21).
-/
import Derived.Test.YbulkiugDoorPlain
namespace Go.Proofs.YbulkiugDoor
open Go.RowKit

set_option maxHeartbeats 400000 in
theorem nsec_any (b : Nat) (n : Int) (w : World) (h0 : 0 ≤ n) (h1 : n < 1000000000) (hc : w.cell? ⟨b, 0, none⟩ = some (.int .u64 n)) :
    Calls Ybad.prog 20 #[.pointer (some ⟨b, 0, none⟩)] w fun e w' => e = .returned (.int .i32 n) ∧ w' = w := by
  have ha := and_low n h0 (by omega)
  go_enter Ybad.func20, Ybad.ntmps20
  go_wp2
  go_ret
  exact ⟨rfl, rfl⟩

set_option maxHeartbeats 400000 in
theorem strip_any (b : Nat) (n : Int) (w : World) (h0 : 0 ≤ n) (h1 : n < 1000000000) (hc : w.cell? ⟨b, 0, none⟩ = some (.int .u64 n)) :
    Calls Ybad.prog 22 #[.pointer (some ⟨b, 0, none⟩)] w fun e w' => e = .returned (.tuple #[]) ∧ w' = w := by
  have ha := and_high n h0 (by omega)
  go_enter Ybad.func22, Ybad.ntmps22
  go_wp2
  go_end0
  exact ⟨rfl, rfl⟩

set_option maxHeartbeats 400000 in
theorem sec_any (b : Nat) (n s : Int) (w : World) (h0 : 0 ≤ n) (h1 : n < 1000000000) (hc : w.cell? ⟨b, 0, none⟩ = some (.int .u64 n)) (hs : w.cell? ⟨b, 1, none⟩ = some (.int .i64 s)) :
    Calls Ybad.prog 26 #[.pointer (some ⟨b, 0, none⟩)] w fun e w' => e = .returned (.int .i64 s) ∧ w' = w := by
  have ha := and_high n h0 (by omega)
  go_enter Ybad.func26, Ybad.ntmps26
  go_wp2
  go_ret
  exact ⟨rfl, rfl⟩

set_option maxHeartbeats 400000 in
theorem unixSec_any (b : Nat) (n s : Int) (w : World) (h0 : 0 ≤ n) (h1 : n < 1000000000) (hs0 : 0 ≤ s) (hs1 : s ≤ 100000000000) (hc : w.cell? ⟨b, 0, none⟩ = some (.int .u64 n)) (hs : w.cell? ⟨b, 1, none⟩ = some (.int .i64 s)) :
    Calls Ybad.prog 27 #[.pointer (some ⟨b, 0, none⟩)] w fun e w' => e = .returned (.int .i64 (s - 62135596800)) ∧ w' = w := by
  go_enter Ybad.func27, Ybad.ntmps27
  go_wp2_with (go_at_call 26; refine (sec_any b n s _ h0 h1 hc hs).mono ?_; rintro e w' ⟨rfl, rfl⟩)
  go_ret
  exact ⟨rfl, rfl⟩

set_option maxHeartbeats 400000 in
theorem addSec_any (b : Nat) (n s d : Int) (w : World) (h0 : 0 ≤ n) (h1 : n < 1000000000) (hs0 : 0 ≤ s) (hs1 : s ≤ 100000000000) (hd0 : 0 ≤ d) (hd1 : d ≤ 10000000000) (hc : w.cell? ⟨b, 0, none⟩ = some (.int .u64 n)) (hs : w.cell? ⟨b, 1, none⟩ = some (.int .i64 s))
    (hf : w.frozen? ⟨b, 1, none⟩ = false) :
    Calls Ybad.prog 21 #[.pointer (some ⟨b, 0, none⟩), .int .i64 d] w fun e w' => e = .returned (.tuple #[]) ∧ w' = w.setCell ⟨b, 1, none⟩ (.int .i64 (s + d)) := by
  have ha := and_high n h0 (by omega)
  by_cases hd : 0 < d
  · go_enter Ybad.func21, Ybad.ntmps21
    go_wp2_with (go_at_call 22; refine (strip_any b n _ h0 h1 hc).mono ?_; rintro e w' ⟨rfl, rfl⟩)
    go_end0
    exact ⟨rfl, rfl⟩
  · obtain rfl : d = 0 := by omega
    go_enter Ybad.func21, Ybad.ntmps21
    go_wp2_with (go_at_call 22; refine (strip_any b n _ h0 h1 hc).mono ?_; rintro e w' ⟨rfl, rfl⟩)
    go_end0
    exact ⟨rfl, by simp⟩
end Go.Proofs.YbulkiugDoor
