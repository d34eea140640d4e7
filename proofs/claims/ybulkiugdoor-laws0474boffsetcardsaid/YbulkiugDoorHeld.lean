/-
  What the clock's two words, the count of calls, the captured reading and the sentinel's variable hold, carried through the steps of full.
-/
import Derived.Test.YbulkiugDoorFull
namespace Go.Proofs.YbulkiugDoor
open Go.RowKit

def Held (w : World) (c k a : Nat) (at0 cur calls after : Int) (ad : Addr) : Prop :=
  w.cell? ⟨c, 2, none⟩ = some (.int .i64 at0) ∧ w.frozen? ⟨c, 2, none⟩ = false ∧ w.cell? ⟨c, 3, none⟩ = some (.int .i64 cur) ∧ w.frozen? ⟨c, 3, none⟩ = false ∧
  w.cell? ⟨k, 0, none⟩ = some (.int .i64 calls) ∧ w.cell? ⟨a, 0, none⟩ = some (.int .i64 after) ∧ w.cell? ⟨0, 0, none⟩ = some (.iface 67 (.pointer (some ad)))

theorem Held.below {w w1 : World} {c k a S : Nat} {at0 cur calls after : Int} {ad : Addr} (h : Held w c k a at0 cur calls after ad) (hb : Below S w w1) (lc : c < S) (lk : k < S) (la : a < S) :
    Held w1 c k a at0 cur calls after ad := by
  obtain ⟨h1, h2, h3, h4, h5, h6, h7⟩ := h
  exact ⟨(hb.cell (p := ⟨c, 2, none⟩) lc).trans h1, (hb.frozen (p := ⟨c, 2, none⟩) lc).trans h2, (hb.cell (p := ⟨c, 3, none⟩) lc).trans h3, (hb.frozen (p := ⟨c, 3, none⟩) lc).trans h4,
    (hb.cell (p := ⟨k, 0, none⟩) lk).trans h5, (hb.cell (p := ⟨a, 0, none⟩) la).trans h6, (hb.cell (p := ⟨0, 0, none⟩) (by show 0 < S; omega)).trans h7⟩

theorem Held.setOff {w : World} {c k a : Nat} {at0 cur calls after : Int} {ad : Addr} (h : Held w c k a at0 cur calls after ad) (hck : c ≠ k) (hca : c ≠ a) (hc0 : 0 < c) (M : Int) :
    Held (w.setCell ⟨c, 3, none⟩ (.int .i64 M)) c k a at0 M calls after ad := by
  obtain ⟨h1, h2, h3, h4, h5, h6, h7⟩ := h
  have n0 : ¬ 0 = c := by omega
  have n1 : ¬ k = c := by omega
  have n2 : ¬ a = c := by omega
  exact ⟨by go_simp, by go_simp, by go_simp, by go_simp, by go_simp, by go_simp, by go_simp⟩

theorem Held.setAt {w : World} {c k a : Nat} {at0 cur calls after : Int} {ad : Addr} (h : Held w c k a at0 cur calls after ad) (hck : c ≠ k) (hca : c ≠ a) (hc0 : 0 < c) (M : Int) :
    Held (w.setCell ⟨c, 2, none⟩ (.int .i64 M)) c k a M cur calls after ad := by
  obtain ⟨h1, h2, h3, h4, h5, h6, h7⟩ := h
  have n0 : ¬ 0 = c := by omega
  have n1 : ¬ k = c := by omega
  have n2 : ¬ a = c := by omega
  exact ⟨by go_simp, by go_simp, by go_simp, by go_simp, by go_simp, by go_simp, by go_simp⟩

theorem Held.count {w : World} {c k a : Nat} {at0 cur calls after : Int} {ad : Addr} (h : Held w c k a at0 cur calls after ad) (_hck : c ≠ k) (hka : k ≠ a) (hk0 : 0 < k) (M : Int) :
    Held (w.setCell ⟨k, 0, none⟩ (.int .i64 M)) c k a at0 cur M after ad := by
  obtain ⟨h1, h2, h3, h4, h5, h6, h7⟩ := h
  have n0 : ¬ 0 = k := by omega
  have n2 : ¬ a = k := by omega
  exact ⟨by go_simp, by go_simp, by go_simp, by go_simp, by go_simp, by go_simp, by go_simp⟩

theorem Held.alloc {w : World} {c k a : Nat} {at0 cur calls after : Int} {ad : Addr} (h : Held w c k a at0 cur calls after ad) (lc : c < w.heap.size) (lk : k < w.heap.size) (la : a < w.heap.size) (o : Obj) :
    Held (w.alloc o) c k a at0 cur calls after ad :=
  h.below ((Below.refl w.heap.size w).alloc (Nat.le_refl _) o) lc lk la
end Go.Proofs.YbulkiugDoor
