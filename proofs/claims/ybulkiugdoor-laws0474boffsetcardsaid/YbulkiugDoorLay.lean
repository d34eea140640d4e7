/-
  The clock, the count and the time as the two laws lay them.
-/
import Derived.Test.YbulkiugDoorHeld
namespace Go.Proofs.YbulkiugDoor
open Go.RowKit

/-- the world behind 'newWallClock(func() .., nil)' -/
def laidClock (w : World) (f : Value) (n s : Int) (at0 cur : Int) : World :=
  ((w.alloc (.cells #[.int .u64 n, .int .i64 s, .pointer none] 26)).alloc (.cells #[.int .i64 0] 3)).alloc (.cells #[f, .nilFunc, .int .i64 at0, .int .i64 cur] 43)

theorem laidClock_size (w : World) (f : Value) (n s : Int) (at0 cur : Int) : (laidClock w f n s at0 cur).heap.size = w.heap.size + 3 := by simp [laidClock]

theorem laid_now (w : World) (f : Value) (n s : Int) (at0 cur : Int) : (laidClock w f n s at0 cur).cell? ⟨w.heap.size + 1 + 1, 0, none⟩ = some f := by
  unfold laidClock
  rw [World.cell?_alloc_at (hn := by simp)]
  rfl

theorem laid_held (w : World) (f : Value) (n s : Int) (at0 cur after : Int) (a : Nat) (ad : Addr) (la : a < w.heap.size) (ha : w.cell? ⟨a, 0, none⟩ = some (.int .i64 after)) (hg : w.cell? ⟨0, 0, none⟩ = some (.iface 67 (.pointer (some ad)))) :
    Held (laidClock w f n s at0 cur) (w.heap.size + 1 + 1) (w.heap.size + 1) a at0 cur 0 after ad := by
  have hb : Below w.heap.size w (laidClock w f n s at0 cur) := (((Below.refl _ _).alloc (Nat.le_refl _) _).alloc (by simp) _).alloc (by simp; omega) _
  refine ⟨?_, ?_, ?_, ?_, ?_, (hb.cell (p := ⟨a, 0, none⟩) la).trans ha, (hb.cell (p := ⟨0, 0, none⟩) (by show 0 < w.heap.size; omega)).trans hg⟩
  · unfold laidClock; rw [World.cell?_alloc_at (hn := by simp)]; rfl
  · unfold laidClock; go_simp
  · unfold laidClock; rw [World.cell?_alloc_at (hn := by simp)]; rfl
  · unfold laidClock; go_simp
  · unfold laidClock; rw [World.cell?_alloc_lt (h := by simp), World.cell?_alloc_at (hn := by simp)]; rfl

theorem laid_free (w : World) (f : Value) (n s : Int) (at0 cur : Int) : (laidClock w f n s at0 cur).frozen? ⟨w.heap.size + 1, 0, none⟩ = false := by
  unfold laidClock
  go_simp

theorem laid_time (w : World) (f : Value) (n s : Int) (at0 cur : Int) : TimeAt (laidClock w f n s at0 cur) w.heap.size n s := by
  refine ⟨?_, ?_, ?_, ?_, ?_, ?_⟩
  all_goals unfold laidClock
  · rw [World.cell?_alloc_lt (h := by simp; omega), World.cell?_alloc_lt (h := by simp), World.cell?_alloc_at (hn := rfl)]; rfl
  · rw [World.cell?_alloc_lt (h := by simp; omega), World.cell?_alloc_lt (h := by simp), World.cell?_alloc_at (hn := rfl)]; rfl
  · rw [World.cell?_alloc_lt (h := by simp; omega), World.cell?_alloc_lt (h := by simp), World.cell?_alloc_at (hn := rfl)]; rfl
  · go_simp
  · go_simp
  · go_simp

theorem laid_below {B : Nat} {w0 w : World} (h : Below B w0 w) (hB : B ≤ w.heap.size) (f : Value) (n s : Int) (at0 cur : Int) : Below B w0 (laidClock w f n s at0 cur) :=
  ((h.alloc hB _).alloc (by simp; omega) _).alloc (by simp; omega) _
end Go.Proofs.YbulkiugDoor
