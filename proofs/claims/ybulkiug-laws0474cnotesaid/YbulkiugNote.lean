/-
  noteRead (function 9) by its contracts.
-/
import Derived.Test.YbulkiugAtomics
namespace Go.Proofs.Ybulkiug
open Go.RowKit

set_option maxHeartbeats 400000 in
theorem note_err (b : Nat) (prev pt : Int) (a : Addr) (w : World) :
    Calls Yba.prog 9 #[.pointer (some ⟨b, 0, none⟩), .int .u64 prev, .int .u64 pt, .iface 60 (.pointer (some a))] w fun e w' => e = .returned (.int .u64 0) ∧ w' = w := by
  go_enter Yba.func9, Yba.ntmps9
  go_wp2
  go_ret
  exact ⟨rfl, rfl⟩

theorem below_set {b o : Nat} {w0 w : World} {u : Value} (h : Below b w0 w) : Below b w0 (w.setCell ⟨b, o, none⟩ u) := h.setCell (p := ⟨b, o, none⟩) (Nat.le_refl _) u

/-- what 'lastRead' holds behind the note -/
def newLast (last prev c : Int) : Int := if c ≠ prev ∧ last = prev then c else last
/-- what 'backwardSteps' holds behind the note -/
def newSteps (steps prev c : Int) : Int := if c < prev then IntKind.u64.wrap (steps + 1) else steps

set_option maxHeartbeats 400000 in
theorem note_nil (b : Nat) (prev pt last steps : Int) (w : World) (_h0 : 0 ≤ pt) (_h1 : pt < 18446744073709551616)
    (hl : w.cell? ⟨b, 139, none⟩ = some (.int .u64 last)) (hlz : w.frozen? ⟨b, 139, none⟩ = false) (hs : w.cell? ⟨b, 145, none⟩ = some (.int .u64 steps)) (hsz : w.frozen? ⟨b, 145, none⟩ = false) :
    Calls Yba.prog 9 #[.pointer (some ⟨b, 0, none⟩), .int .u64 prev, .int .u64 pt, .nilIface] w fun e w' => e = .returned (.int .u64 pt) ∧
      w'.cell? ⟨b, 139, none⟩ = some (.int .u64 (newLast last prev (pt / 4194304))) ∧ w'.cell? ⟨b, 145, none⟩ = some (.int .u64 (newSteps steps prev (pt / 4194304))) ∧ Below b w w' := by
  by_cases hc : pt / 4194304 = prev
  · have hne : (pt / 4194304 != prev) = false := by simp [hc]
    have r1 : newLast last prev (pt / 4194304) = last := by unfold newLast; rw [if_neg (by omega)]
    have r2 : newSteps steps prev (pt / 4194304) = steps := by unfold newSteps; rw [if_neg (by omega)]
    rw [r1, r2]
    clear hc r1 r2
    go_enter Yba.func9, Yba.ntmps9
    go_wp2_with fail
    go_ret
    exact ⟨rfl, hl, hs, Below.refl _ _⟩
  · have hne : (pt / 4194304 != prev) = true := by simp [hc]
    by_cases hlt : pt / 4194304 < prev
    · have r2 : newSteps steps prev (pt / 4194304) = IntKind.u64.wrap (steps + 1) := by unfold newSteps; rw [if_pos hlt]
      rw [r2]
      clear r2
      generalize hs1 : IntKind.u64.wrap (steps + 1) = s1
      have H1 : Hid (IntKind.u64.wrap (steps + 1) = s1) := hs1
      clear hs1
      by_cases hp : last = prev
      · subst hp
        have r1 : newLast last last (pt / 4194304) = pt / 4194304 := by unfold newLast; rw [if_pos ⟨hc, rfl⟩]
        rw [r1]
        clear hc r1
        go_enter Yba.func9, Yba.ntmps9
        go_wp2_with fail
        refine (add_any b 145 steps _ hs hsz).mono ?_
        rw [H1.out]
        rintro e w' ⟨rfl, rfl⟩
        go_wp2_with fail
        refine (cas_hit b 139 last _ _ (by go_simp) (by go_simp)).mono ?_
        rintro e w' ⟨rfl, rfl⟩
        go_wp2_with fail
        go_ret
        exact ⟨rfl, by go_simp, by go_simp, below_set (below_set (Below.refl _ _))⟩
      · have r1 : newLast last prev (pt / 4194304) = last := by unfold newLast; rw [if_neg (fun h => hp h.2)]
        rw [r1]
        clear hc r1
        go_enter Yba.func9, Yba.ntmps9
        go_wp2_with fail
        refine (add_any b 145 steps _ hs hsz).mono ?_
        rw [H1.out]
        rintro e w' ⟨rfl, rfl⟩
        go_wp2_with fail
        refine (cas_miss b 139 last prev _ _ (by go_simp) (by go_simp) hp).mono ?_
        rintro e w' ⟨rfl, rfl⟩
        go_wp2_with fail
        go_ret
        exact ⟨rfl, by go_simp, by go_simp, below_set (Below.refl _ _)⟩
    · have r2 : newSteps steps prev (pt / 4194304) = steps := by unfold newSteps; rw [if_neg hlt]
      rw [r2]
      clear r2
      by_cases hp : last = prev
      · subst hp
        have r1 : newLast last last (pt / 4194304) = pt / 4194304 := by unfold newLast; rw [if_pos ⟨hc, rfl⟩]
        rw [r1]
        clear hc r1
        go_enter Yba.func9, Yba.ntmps9
        go_wp2_with fail
        refine (cas_hit b 139 last _ _ (by go_simp) (by go_simp)).mono ?_
        rintro e w' ⟨rfl, rfl⟩
        go_wp2_with fail
        go_ret
        exact ⟨rfl, by go_simp, by go_simp, below_set (Below.refl _ _)⟩
      · have r1 : newLast last prev (pt / 4194304) = last := by unfold newLast; rw [if_neg (fun h => hp h.2)]
        rw [r1]
        clear hc r1
        go_enter Yba.func9, Yba.ntmps9
        go_wp2_with fail
        refine (cas_miss b 139 last prev _ _ (by go_simp) (by go_simp) hp).mono ?_
        rintro e w' ⟨rfl, rfl⟩
        go_wp2_with fail
        go_ret
        exact ⟨rfl, by go_simp, by go_simp, Below.refl _ _⟩
end Go.Proofs.Ybulkiug
