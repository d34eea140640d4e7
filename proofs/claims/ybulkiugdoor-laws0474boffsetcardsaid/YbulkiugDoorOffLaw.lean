/-
  LawS0474BOffset (4): the twelve cases joined: for every input.
-/
import Derived.Test.YbulkiugDoorOffA
import Derived.Test.YbulkiugDoorOffB
import Derived.Test.YbulkiugDoorOffC
namespace Go.Proofs.YbulkiugDoor
open Go.RowKit

theorem base_any (sel : Int) : ∃ bv : Int, ([.int .i64 0, .int .i64 10000, .int .i64 (-10000), .int .i64 1099511627776] : List Value)[(sel % 4).toNat]? = some (.int .i64 bv) := by
  rcases (show (sel % 4).toNat = 0 ∨ (sel % 4).toNat = 1 ∨ (sel % 4).toNat = 2 ∨ (sel % 4).toNat = 3 by omega) with e | e | e | e <;> rw [e] <;> exact ⟨_, rfl⟩

theorem gap_eq (after g : Int) (hg0 : -128 ≤ g) (hg1 : g ≤ 127) : wrap64 (after - wrap64 (after - (10000 + g))) = 10000 + g := by
  unfold wrap64
  omega

/-- for every input -/
theorem off_any (secs ns after g sel d at0 : Int) (ad : Addr) (w : World) (h2 : 0 ≤ secs) (h3 : secs < 4294967296) (hns0 : 0 ≤ ns) (hns1 : ns < 4294967296)
    (hg0 : -128 ≤ g) (hg1 : g ≤ 127) (hs0 : 0 ≤ sel) (hs1 : sel ≤ 255) (hd0 : -32768 ≤ d) (hd1 : d ≤ 32767)
    (hg : w.cell? ⟨0, 0, none⟩ = some (.iface 67 (.pointer (some ad)))) (hz : 0 < w.heap.size) :
    Calls Ybad.prog 4 #[.int .u32 secs, .int .u32 ns, .int .i64 after, .int .i8 g, .int .u8 sel, .int .i16 d, .int .i64 at0] w fun e w' => e = .returned (.bool true) ∧ Below w.heap.size w w' := by
  obtain ⟨bv, hbv⟩ := base_any sel
  have h0 : 0 ≤ ns % 1000000000 := by omega
  have h1 : ns % 1000000000 < 1000000000 := by omega
  have hD := gap_eq after g hg0 hg1
  obtain ⟨n, hn⟩ : ∃ n, ns % 1000000000 = n := ⟨_, rfl⟩
  rw [hn] at h0 h1
  obtain ⟨M, hM⟩ : ∃ M, wrap64 (secs * 1000000000 + n - after) = M := ⟨_, rfl⟩
  obtain ⟨cur, hcur⟩ : ∃ cur, wrap64 (wrap64 (M + bv) + d) = cur := ⟨_, rfl⟩
  obtain ⟨bef, hbef⟩ : ∃ bef, wrap64 (after - (10000 + g)) = bef := ⟨_, rfl⟩
  obtain ⟨X, hX⟩ : ∃ X, wrap64 (cur - 10000) = X := ⟨_, rfl⟩
  obtain ⟨NM, hNM⟩ : ∃ N, IntKind.u64.wrap (wrap64 (after + M)) = N := ⟨_, rfl⟩
  obtain ⟨NC, hNC⟩ : ∃ N, IntKind.u64.wrap (wrap64 (after + cur)) = N := ⟨_, rfl⟩
  have rM := u64_range (wrap64 (after + M))
  have rC := u64_range (wrap64 (after + cur))
  rw [hNM] at rM
  rw [hNC] at rC
  rw [hbef] at hD
  by_cases q1 : M ≤ cur
  · by_cases q2 : X ≤ M
    · by_cases q3 : g ≤ 0
      · by_cases q4 : NC < 4294967296000000000
        · exact Off.off_keepT_in secs ns after g sel d at0 n M bv cur bef X NC ad w h0 h1 h2 h3 hn hns0 hns1 hg0 hg1 hs0 hs1 hd0 hd1 hM hbv hcur hbef hD hX hNC rC.1 rC.2 q1 q2 q3 q4 hg hz
        · exact Off.off_keepT_out secs ns after g sel d at0 n M bv cur bef X NC ad w h0 h1 h2 h3 hn hns0 hns1 hg0 hg1 hs0 hs1 hd0 hd1 hM hbv hcur hbef hD hX hNC rC.1 rC.2 q1 q2 q3 (by omega) hg hz
      · by_cases q4 : NC < 4294967296000000000
        · exact Off.off_keepF1_in secs ns after g sel d at0 n M bv cur bef X NC ad w h0 h1 h2 h3 hn hns0 hns1 hg0 hg1 hs0 hs1 hd0 hd1 hM hbv hcur hbef hD hX hNC rC.1 rC.2 q1 q2 (by omega) q4 hg hz
        · exact Off.off_keepF1_out secs ns after g sel d at0 n M bv cur bef X NC ad w h0 h1 h2 h3 hn hns0 hns1 hg0 hg1 hs0 hs1 hd0 hd1 hM hbv hcur hbef hD hX hNC rC.1 rC.2 q1 q2 (by omega) (by omega) hg hz
    · by_cases q3 : g ≤ 0
      · by_cases q4 : NM < 4294967296000000000
        · exact Off.off_drop_in secs ns after g sel d at0 n M bv cur bef X NM ad w h0 h1 h2 h3 hn hns0 hns1 hg0 hg1 hs0 hs1 hd0 hd1 hM hbv hcur hbef hD hX hNM rM.1 rM.2 q1 (by omega) q3 q4 hg hz
        · exact Off.off_drop_out secs ns after g sel d at0 n M bv cur bef X NM ad w h0 h1 h2 h3 hn hns0 hns1 hg0 hg1 hs0 hs1 hd0 hd1 hM hbv hcur hbef hD hX hNM rM.1 rM.2 q1 (by omega) q3 (by omega) hg hz
      · by_cases q4 : NC < 4294967296000000000
        · exact Off.off_keepF2_in secs ns after g sel d at0 n M bv cur bef X NC ad w h0 h1 h2 h3 hn hns0 hns1 hg0 hg1 hs0 hs1 hd0 hd1 hM hbv hcur hbef hD hX hNC rC.1 rC.2 q1 (by omega) (by omega) q4 hg hz
        · exact Off.off_keepF2_out secs ns after g sel d at0 n M bv cur bef X NC ad w h0 h1 h2 h3 hn hns0 hns1 hg0 hg1 hs0 hs1 hd0 hd1 hM hbv hcur hbef hD hX hNC rC.1 rC.2 q1 (by omega) (by omega) (by omega) hg hz
  · by_cases q3 : g ≤ 0
    · by_cases q4 : NM < 4294967296000000000
      · exact Off.off_raiseT_in secs ns after g sel d at0 n M bv cur bef X NM ad w h0 h1 h2 h3 hn hns0 hns1 hg0 hg1 hs0 hs1 hd0 hd1 hM hbv hcur hbef hD hX hNM rM.1 rM.2 (by omega) q3 q4 hg hz
      · exact Off.off_raiseT_out secs ns after g sel d at0 n M bv cur bef X NM ad w h0 h1 h2 h3 hn hns0 hns1 hg0 hg1 hs0 hs1 hd0 hd1 hM hbv hcur hbef hD hX hNM rM.1 rM.2 (by omega) q3 (by omega) hg hz
    · by_cases q4 : NM < 4294967296000000000
      · exact Off.off_raiseF_in secs ns after g sel d at0 n M bv cur bef X NM ad w h0 h1 h2 h3 hn hns0 hns1 hg0 hg1 hs0 hs1 hd0 hd1 hM hbv hcur hbef hD hX hNM rM.1 rM.2 (by omega) (by omega) q4 hg hz
      · exact Off.off_raiseF_out secs ns after g sel d at0 n M bv cur bef X NM ad w h0 h1 h2 h3 hn hns0 hns1 hg0 hg1 hs0 hs1 hd0 hd1 hM hbv hcur hbef hD hX hNM rM.1 rM.2 (by omega) (by omega) (by omega) hg hz
end Go.Proofs.YbulkiugDoor
