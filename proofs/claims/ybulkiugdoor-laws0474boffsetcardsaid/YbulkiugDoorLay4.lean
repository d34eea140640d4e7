/-
  The clock, the count, the table and the time as LawS0474BOffset lays them.
-/
import Derived.Test.YbulkiugDoorHeld
namespace Go.Proofs.YbulkiugDoor
open Go.RowKit

/-- the world behind 'w.offset.Store(cur); w.fullAt.Store(at0)' -/
def laidClock4 (w : World) (f : Value) (n s : Int) (at0 cur : Int) : World :=
  (((w.alloc (.cells #[.int .u64 n, .int .i64 s, .pointer none] 26)).alloc (.cells #[.int .i64 0, .int .i64 10000, .int .i64 (-10000), .int .i64 1099511627776] 48)).alloc (.cells #[.int .i64 0] 3)).alloc (.cells #[f, .nilFunc, .int .i64 at0, .int .i64 cur] 43)

theorem laidClock4_size (w : World) (f : Value) (n s : Int) (at0 cur : Int) : (laidClock4 w f n s at0 cur).heap.size = w.heap.size + 4 := by simp [laidClock4]

theorem laid4_now (w : World) (f : Value) (n s : Int) (at0 cur : Int) : (laidClock4 w f n s at0 cur).cell? ⟨w.heap.size + 1 + 1 + 1, 0, none⟩ = some f := by
  unfold laidClock4
  rw [World.cell?_alloc_at (hn := by simp)]
  rfl

theorem laid4_below {B : Nat} {w0 w : World} (h : Below B w0 w) (hB : B ≤ w.heap.size) (f : Value) (n s : Int) (at0 cur : Int) : Below B w0 (laidClock4 w f n s at0 cur) :=
  (((h.alloc hB _).alloc (by simp; omega) _).alloc (by simp; omega) _).alloc (by simp; omega) _

theorem laid4_held (w : World) (f : Value) (n s : Int) (at0 cur after : Int) (a : Nat) (ad : Addr) (la : a < w.heap.size) (ha : w.cell? ⟨a, 0, none⟩ = some (.int .i64 after)) (hg : w.cell? ⟨0, 0, none⟩ = some (.iface 67 (.pointer (some ad)))) :
    Held (laidClock4 w f n s at0 cur) (w.heap.size + 1 + 1 + 1) (w.heap.size + 1 + 1) a at0 cur 0 after ad := by
  have hb : Below w.heap.size w (laidClock4 w f n s at0 cur) := laid4_below (Below.refl _ _) (Nat.le_refl _) f n s at0 cur
  refine ⟨?_, ?_, ?_, ?_, ?_, (hb.cell (p := ⟨a, 0, none⟩) la).trans ha, (hb.cell (p := ⟨0, 0, none⟩) (by show 0 < w.heap.size; omega)).trans hg⟩
  · unfold laidClock4; rw [World.cell?_alloc_at (hn := by simp)]; rfl
  · unfold laidClock4; go_simp
  · unfold laidClock4; rw [World.cell?_alloc_at (hn := by simp)]; rfl
  · unfold laidClock4; go_simp
  · unfold laidClock4; rw [World.cell?_alloc_lt (h := by simp), World.cell?_alloc_at (hn := by simp)]; rfl

theorem laid4_free (w : World) (f : Value) (n s : Int) (at0 cur : Int) : (laidClock4 w f n s at0 cur).frozen? ⟨w.heap.size + 1 + 1, 0, none⟩ = false := by
  unfold laidClock4
  go_simp

theorem laid4_time (w : World) (f : Value) (n s : Int) (at0 cur : Int) : TimeAt (laidClock4 w f n s at0 cur) w.heap.size n s := by
  refine ⟨?_, ?_, ?_, ?_, ?_, ?_⟩
  all_goals unfold laidClock4
  · rw [World.cell?_alloc_lt (h := by simp; omega), World.cell?_alloc_lt (h := by simp; omega), World.cell?_alloc_lt (h := by simp), World.cell?_alloc_at (hn := rfl)]; rfl
  · rw [World.cell?_alloc_lt (h := by simp; omega), World.cell?_alloc_lt (h := by simp; omega), World.cell?_alloc_lt (h := by simp), World.cell?_alloc_at (hn := rfl)]; rfl
  · rw [World.cell?_alloc_lt (h := by simp; omega), World.cell?_alloc_lt (h := by simp; omega), World.cell?_alloc_lt (h := by simp), World.cell?_alloc_at (hn := rfl)]; rfl
  · go_simp
  · go_simp
  · go_simp
end Go.Proofs.YbulkiugDoor
