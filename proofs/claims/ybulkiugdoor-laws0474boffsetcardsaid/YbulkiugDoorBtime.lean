/-
  zzs0474btime (5): the time secs seconds and nsec nanoseconds after 1900 (and 2^32 s more when out), by Add alone.
-/
import Derived.Test.YbulkiugDoorAdd
namespace Go.Proofs.YbulkiugDoor
open Go.RowKit

/-- block b holds the time of s seconds and n nanoseconds, and may be written -/
def TimeAt (w : World) (b : Nat) (n s : Int) : Prop :=
  w.cell? ⟨b, 0, none⟩ = some (.int .u64 n) ∧ w.cell? ⟨b, 1, none⟩ = some (.int .i64 s) ∧ w.cell? ⟨b, 2, none⟩ = some (.pointer none) ∧
  w.frozen? ⟨b, 0, none⟩ = false ∧ w.frozen? ⟨b, 1, none⟩ = false ∧ w.frozen? ⟨b, 2, none⟩ = false

theorem TimeAt.below {w w1 : World} {b : Nat} {n s : Int} (h : TimeAt w b n s) (hb : Below w.heap.size w w1) (hlt : b < w.heap.size) : TimeAt w1 b n s := by
  obtain ⟨c0, c1, c2, f0, f1, f2⟩ := h
  exact ⟨(hb.cell (p := ⟨b, 0, none⟩) hlt).trans c0, (hb.cell (p := ⟨b, 1, none⟩) hlt).trans c1, (hb.cell (p := ⟨b, 2, none⟩) hlt).trans c2,
    (hb.frozen (p := ⟨b, 0, none⟩) hlt).trans f0, (hb.frozen (p := ⟨b, 1, none⟩) hlt).trans f1, (hb.frozen (p := ⟨b, 2, none⟩) hlt).trans f2⟩

/-- a time is stored into block b -/
def putTime (w : World) (b : Nat) (n s : Int) : World :=
  ((w.setCell ⟨b, 0, none⟩ (.int .u64 n)).setCell ⟨b, 1, none⟩ (.int .i64 s)).setCell ⟨b, 2, none⟩ (.pointer none)

theorem TimeAt.put {w : World} {b : Nat} {n s : Int} (h : TimeAt w b n s) (n' s' : Int) : TimeAt (putTime w b n' s') b n' s' := by
  obtain ⟨c0, c1, c2, f0, f1, f2⟩ := h
  unfold putTime
  exact ⟨by go_simp, by go_simp, by go_simp, by go_simp, by go_simp, by go_simp⟩

theorem TimeAt.other {w : World} {b c : Nat} {n s : Int} (h : TimeAt w b n s) (hne : b ≠ c) (n' s' : Int) : TimeAt (putTime w c n' s') b n s := by
  obtain ⟨c0, c1, c2, f0, f1, f2⟩ := h
  unfold putTime
  exact ⟨by go_simp, by go_simp, by go_simp, by go_simp, by go_simp, by go_simp⟩

theorem putTime_size (w : World) (b : Nat) (n s : Int) : (putTime w b n s).heap.size = w.heap.size := by simp [putTime, World.setCell]

theorem putTime_below {B b : Nat} {w0 w : World} (h : Below B w0 w) (hb : B ≤ b) (n s : Int) : Below B w0 (putTime w b n s) :=
  ((h.setCell (p := ⟨b, 0, none⟩) hb _).setCell (p := ⟨b, 1, none⟩) hb _).setCell (p := ⟨b, 2, none⟩) hb _

/-- Add, its result named -/
theorem add_to (n s d n' s' : Int) (w : World) (h0 : 0 ≤ n) (h1 : n < 1000000000) (hs0 : 0 ≤ s) (hs1 : s ≤ 100000000000) (hd0 : 0 ≤ d) (hd1 : d ≤ 9000000000000000000) (hnd : n + d % 1000000000 < 1000000000)
    (hn : n + d % 1000000000 = n') (hs : s + d / 1000000000 = s') :
    Calls Ybad.prog 12 #[.agg #[.int .u64 n, .int .i64 s, .pointer none], .int .i64 d] w fun e w' => e = .returned (.agg #[.int .u64 n', .int .i64 s', .pointer none]) ∧ Below w.heap.size w w' := by
  subst hn hs
  exact add_any n s d w h0 h1 hs0 hs1 hd0 hd1 hnd

set_option maxHeartbeats 1000000 in
theorem btime_in (secs nsec : Int) (w : World) (h0 : 0 ≤ secs) (h1 : secs < 4294967296) (h2 : 0 ≤ nsec) (h3 : nsec < 1000000000) :
    Calls Ybad.prog 5 #[.int .u32 secs, .int .u32 nsec, .bool false] w fun e w' => e = .returned (.agg #[.int .u64 nsec, .int .i64 (59926608000 + secs), .pointer none]) ∧ Below w.heap.size w w' := by
  go_enter Ybad.func5, Ybad.ntmps5
  go_wp2
  go_loopw [8] (fun i wr => ∃ k : Nat, k ≤ 8 ∧ i = .int .i64 k ∧ TimeAt wr w.heap.size 0 0 ∧ TimeAt wr (w.heap.size + 1) 0 (7490826000 * k) ∧ w.heap.size + 1 < wr.heap.size ∧ Below w.heap.size w wr) (fun i _ => 8 - (intOf i).toNat)
  case atStart => exact ⟨0, by omega, rfl, ⟨by go_simp, by go_simp, by go_simp, by go_simp, by go_simp, by go_simp⟩, ⟨by go_simp, by go_simp, by go_simp, by go_simp, by go_simp, by go_simp⟩, by simp, ((Below.refl _ _).alloc (Nat.le_refl _) _).alloc (by simp) _⟩
  case round =>
    obtain ⟨k, hk, rfl, hR, hT, hsz, hb⟩ := hrel
    have hT' := hT
    obtain ⟨c0, c1, c2, f0, f1, f2⟩ := hT
    by_cases hlt : k < 8
    · go_wp2_with fail
      refine (add_any 0 (7490826000 * k) _ _ (by omega) (by omega) (by omega) (by omega) (by omega) (by omega) (by omega)).mono ?_
      rintro e w1 ⟨rfl, hb1⟩
      have hT1 := hT'.below hb1 hsz
      have hR1 := hR.below hb1 (by omega)
      have hz := hb1.size
      have hb2 : Below w.heap.size w w1 := hb.trans (hb1.mono (by omega))
      clear c0 c1 c2 f0 f1 f2 hT' hR hb hb1
      have hT1' := hT1
      obtain ⟨c0', c1', c2', f0', f1', f2'⟩ := hT1
      go_wp2_with fail
      have R1 := hR1.other (c := w.heap.size + 1) (by omega) 0 (7490826000 * k + 7490826000)
      have R2 := hT1'.put 0 (7490826000 * k + 7490826000)
      have R3 := putTime_size w1 (w.heap.size + 1) 0 (7490826000 * k + 7490826000)
      have R4 := putTime_below hb2 (b := w.heap.size + 1) (by omega) 0 (7490826000 * k + 7490826000)
      go_roundw
      case rel => exact ⟨k + 1, by omega, by go_num, R1, by rw [show (7490826000 : Int) * ((k + 1 : Nat) : Int) = 7490826000 * k + 7490826000 by omega]; exact R2, by show _ < (putTime w1 (w.heap.size + 1) 0 (7490826000 * k + 7490826000)).heap.size; omega, R4⟩
      case measure => simp [intOf]; omega
    · obtain rfl : k = 8 := by omega
      go_wp2_with fail
      refine (add_to 0 59926608000 (secs * 1000000000) 0 (59926608000 + secs) _ (by omega) (by omega) (by omega) (by omega) (by omega) (by omega) (by omega) (by omega) (by omega)).mono ?_
      rintro e w1 ⟨rfl, hb1⟩
      have hT1 := hT'.below hb1 hsz
      have hR1 := hR.below hb1 (by omega)
      have hz1 : w.heap.size + 1 < w1.heap.size := by have := hb1.size; omega
      have hb2 : Below w.heap.size w w1 := hb.trans (hb1.mono (by omega))
      clear c0 c1 c2 f0 f1 f2 hT' hR hb hb1
      have hT1' := hT1
      obtain ⟨c0', c1', c2', f0', f1', f2'⟩ := hT1
      go_wp2_with fail
      have P1 := hT1'.put 0 (59926608000 + secs)
      have Q1 := hR1.other (c := w.heap.size + 1) (by omega) 0 (59926608000 + secs)
      have Z1 := putTime_size w1 (w.heap.size + 1) 0 (59926608000 + secs)
      have B1 := putTime_below hb2 (b := w.heap.size + 1) (by omega) 0 (59926608000 + secs)
      clear hT1' hR1 hb2 c0' c1' c2' f0' f1' f2'
      refine (add_to 0 (59926608000 + secs) nsec nsec (59926608000 + secs) (putTime w1 (w.heap.size + 1) 0 (59926608000 + secs)) (by omega) (by omega) (by omega) (by omega) (by omega) (by omega) (by omega) (by omega) (by omega)).mono ?_
      rintro e w2 ⟨rfl, hb3⟩
      have P2 := P1.below hb3 (by omega)
      have Q2 := Q1.below hb3 (by omega)
      have hz2 : w.heap.size + 1 < w2.heap.size := by have := hb3.size; omega
      have hb4 : Below w.heap.size w w2 := B1.trans (hb3.mono (by omega))
      clear P1 Q1 Z1 B1 hb3
      have P2' := P2
      obtain ⟨c0, c1, c2, f0, f1, f2⟩ := P2
      have Q2' := Q2
      obtain ⟨d0, d1, d2, g0, g1, g2⟩ := Q2
      go_wp2_with fail
      have P3 := (Q2'.other (c := w.heap.size + 1) (by omega) nsec (59926608000 + secs)).put nsec (59926608000 + secs)
      have hb5 := putTime_below (putTime_below hb4 (b := w.heap.size + 1) (by omega) nsec (59926608000 + secs)) (b := w.heap.size) (Nat.le_refl _) nsec (59926608000 + secs)
      obtain ⟨e0, e1, e2, _, _, _⟩ := P3
      unfold putTime at e0 e1 e2
      refine bodyPost_ret (v := .agg #[.int .u64 nsec, .int .i64 (59926608000 + secs), .pointer none]) (by simp [results, Ybad.results5, go_sem, e0, e1, e2]) rfl ⟨rfl, hb5⟩
set_option maxHeartbeats 1000000 in
theorem btime_out (secs nsec : Int) (w : World) (h0 : 0 ≤ secs) (h1 : secs < 4294967296) (h2 : 0 ≤ nsec) (h3 : nsec < 1000000000) :
    Calls Ybad.prog 5 #[.int .u32 secs, .int .u32 nsec, .bool true] w fun e w' => e = .returned (.agg #[.int .u64 nsec, .int .i64 (59926608000 + secs + 4294967296), .pointer none]) ∧ Below w.heap.size w w' := by
  go_enter Ybad.func5, Ybad.ntmps5
  go_wp2
  go_loopw [8] (fun i wr => ∃ k : Nat, k ≤ 8 ∧ i = .int .i64 k ∧ TimeAt wr w.heap.size 0 0 ∧ TimeAt wr (w.heap.size + 1) 0 (7490826000 * k) ∧ w.heap.size + 1 < wr.heap.size ∧ Below w.heap.size w wr) (fun i _ => 8 - (intOf i).toNat)
  case atStart => exact ⟨0, by omega, rfl, ⟨by go_simp, by go_simp, by go_simp, by go_simp, by go_simp, by go_simp⟩, ⟨by go_simp, by go_simp, by go_simp, by go_simp, by go_simp, by go_simp⟩, by simp, ((Below.refl _ _).alloc (Nat.le_refl _) _).alloc (by simp) _⟩
  case round =>
    obtain ⟨k, hk, rfl, hR, hT, hsz, hb⟩ := hrel
    have hT' := hT
    obtain ⟨c0, c1, c2, f0, f1, f2⟩ := hT
    by_cases hlt : k < 8
    · go_wp2_with fail
      refine (add_any 0 (7490826000 * k) _ _ (by omega) (by omega) (by omega) (by omega) (by omega) (by omega) (by omega)).mono ?_
      rintro e w1 ⟨rfl, hb1⟩
      have hT1 := hT'.below hb1 hsz
      have hR1 := hR.below hb1 (by omega)
      have hz := hb1.size
      have hb2 : Below w.heap.size w w1 := hb.trans (hb1.mono (by omega))
      clear c0 c1 c2 f0 f1 f2 hT' hR hb hb1
      have hT1' := hT1
      obtain ⟨c0', c1', c2', f0', f1', f2'⟩ := hT1
      go_wp2_with fail
      have R1 := hR1.other (c := w.heap.size + 1) (by omega) 0 (7490826000 * k + 7490826000)
      have R2 := hT1'.put 0 (7490826000 * k + 7490826000)
      have R3 := putTime_size w1 (w.heap.size + 1) 0 (7490826000 * k + 7490826000)
      have R4 := putTime_below hb2 (b := w.heap.size + 1) (by omega) 0 (7490826000 * k + 7490826000)
      go_roundw
      case rel => exact ⟨k + 1, by omega, by go_num, R1, by rw [show (7490826000 : Int) * ((k + 1 : Nat) : Int) = 7490826000 * k + 7490826000 by omega]; exact R2, by show _ < (putTime w1 (w.heap.size + 1) 0 (7490826000 * k + 7490826000)).heap.size; omega, R4⟩
      case measure => simp [intOf]; omega
    · obtain rfl : k = 8 := by omega
      go_wp2_with fail
      refine (add_to 0 59926608000 (secs * 1000000000) 0 (59926608000 + secs) _ (by omega) (by omega) (by omega) (by omega) (by omega) (by omega) (by omega) (by omega) (by omega)).mono ?_
      rintro e w1 ⟨rfl, hb1⟩
      have hT1 := hT'.below hb1 hsz
      have hR1 := hR.below hb1 (by omega)
      have hz1 : w.heap.size + 1 < w1.heap.size := by have := hb1.size; omega
      have hb2 : Below w.heap.size w w1 := hb.trans (hb1.mono (by omega))
      clear c0 c1 c2 f0 f1 f2 hT' hR hb hb1
      have hT1' := hT1
      obtain ⟨c0', c1', c2', f0', f1', f2'⟩ := hT1
      go_wp2_with fail
      have P1 := hT1'.put 0 (59926608000 + secs)
      have Q1 := hR1.other (c := w.heap.size + 1) (by omega) 0 (59926608000 + secs)
      have Z1 := putTime_size w1 (w.heap.size + 1) 0 (59926608000 + secs)
      have B1 := putTime_below hb2 (b := w.heap.size + 1) (by omega) 0 (59926608000 + secs)
      clear hT1' hR1 hb2 c0' c1' c2' f0' f1' f2'
      refine (add_to 0 (59926608000 + secs) nsec nsec (59926608000 + secs) (putTime w1 (w.heap.size + 1) 0 (59926608000 + secs)) (by omega) (by omega) (by omega) (by omega) (by omega) (by omega) (by omega) (by omega) (by omega)).mono ?_
      rintro e w2 ⟨rfl, hb3⟩
      have P2 := P1.below hb3 (by omega)
      have Q2 := Q1.below hb3 (by omega)
      have hz2 : w.heap.size + 1 < w2.heap.size := by have := hb3.size; omega
      have hb4 : Below w.heap.size w w2 := B1.trans (hb3.mono (by omega))
      clear P1 Q1 Z1 B1 hb3
      have P2' := P2
      obtain ⟨c0, c1, c2, f0, f1, f2⟩ := P2
      go_wp2_with fail
      have P1 := P2'.put nsec (59926608000 + secs)
      have Q1 := Q2.other (c := w.heap.size + 1) (by omega) nsec (59926608000 + secs)
      have Z1 := putTime_size w2 (w.heap.size + 1) nsec (59926608000 + secs)
      have B1 := putTime_below hb4 (b := w.heap.size + 1) (by omega) nsec (59926608000 + secs)
      clear P2' Q2 hb4 c0 c1 c2 f0 f1 f2
      refine (add_to nsec (59926608000 + secs) 4294967296000000000 nsec (59926608000 + secs + 4294967296) (putTime w2 (w.heap.size + 1) nsec (59926608000 + secs)) (by omega) (by omega) (by omega) (by omega) (by omega) (by omega) (by omega) (by omega) (by omega)).mono ?_
      rintro e w3 ⟨rfl, hb3⟩
      have P2 := P1.below hb3 (by omega)
      have Q2 := Q1.below hb3 (by omega)
      have hz3 : w.heap.size + 1 < w3.heap.size := by have := hb3.size; omega
      have hb4 : Below w.heap.size w w3 := B1.trans (hb3.mono (by omega))
      clear P1 Q1 Z1 B1 hb3
      have P2' := P2
      obtain ⟨c0, c1, c2, f0, f1, f2⟩ := P2
      have Q2' := Q2
      obtain ⟨d0, d1, d2, g0, g1, g2⟩ := Q2
      go_wp2_with fail
      have P3 := (Q2'.other (c := w.heap.size + 1) (by omega) nsec (59926608000 + secs + 4294967296)).put nsec (59926608000 + secs + 4294967296)
      have hb5 := putTime_below (putTime_below hb4 (b := w.heap.size + 1) (by omega) nsec (59926608000 + secs + 4294967296)) (b := w.heap.size) (Nat.le_refl _) nsec (59926608000 + secs + 4294967296)
      obtain ⟨e0, e1, e2, _, _, _⟩ := P3
      unfold putTime at e0 e1 e2
      refine bodyPost_ret (v := .agg #[.int .u64 nsec, .int .i64 (59926608000 + secs + 4294967296), .pointer none]) (by simp [results, Ybad.results5, go_sem, e0, e1, e2]) rfl ⟨rfl, hb5⟩
end Go.Proofs.YbulkiugDoor
