/-
  variadicTail (function 6): for 0 <= n <= 1024, FOR EVERY F, it hands back a row of its own of n + 1 strings, the last of which is the fixed rest word.
-/
import Derived.Test.YbulkisqFmtSprintf
namespace Go.Proofs.YbulkisqFmt
open Go.RowKit Go.Extern.Stop Go.Stop Go.Extern
/-- 'make([]T, n, c)', n and c variables, n ≤ c. -/
theorem wpList_make_cap {P : Program} (w : World) {ops : Array Oper} {rest : List Oper} {o : Oper} {a : Act} {Q : Exit → Act → World → Prop}
    (hg : o.guard = none) (l c : Operand) (t : TypeId) (hop : o.op = Op.makeSlice t l c)
    (base : Nat) (e : TypeId) (i : TypeInfo) (z : Value) (size : Nat) (h1 : P.underlying t = some (.slice e)) (h2 : P.info? e = some i) (h3 : i.zero = some z) (h4 : i.size = size)
    (kl kc : IntKind) (L C : Int) (n m : Nat) (hl : a.eval l = .int kl L) (hc : a.eval c = .int kc C) (hL : L = (n : Int)) (hC : C = (m : Int)) (hnm : n ≤ m) (b2 : i.bytes * m ≤ 281474976710656) (b3 : m ≤ maxLen) (b4 : base ≤ w.heap.size)
    (hK : ∀ w' xs, w'.ownsRow base e size (.slice (some ⟨w.heap.size, 0, none⟩) n m) n xs → w.grownBy w' none → wpList P ops Q rest (a.put o.dst (.slice (some ⟨w.heap.size, 0, none⟩) n m)) w') :
    wpList P ops Q (o :: rest) a w := by
  refine wpList_plain hg fun K hK' => ?_
  subst h4
  have h63' : (m : Int) ≤ 9223372036854775807 := by
    have h := b3
    simp [maxLen] at h
    omega
  have hb' : (i.bytes : Int) * (m : Int) ≤ 281474976710656 := by
    have h : ((i.bytes * m : Nat) : Int) ≤ 281474976710656 := by omega
    rwa [Int.natCast_mul] at h
  have hrun := run_make (P := P) w t e i z h1 h2 h3 kl kc n m (by omega) (by omega) hb' h63'
  simp only [Int.toNat_natCast] at hrun
  have r1 : (w.alloc (.cells (madeCells z.cells (m * i.size)) e)).ownsRow base e i.size (.slice (some ⟨w.heap.size, 0, none⟩) n m) n ((madeCells z.cells (m * i.size)).toList.take (n * i.size)) := by
    refine ⟨?_, .inr ⟨w.heap.size, m, _, rfl, b4, heap_alloc_new w _, hnm, b3, size_madeCells _ _, rfl⟩⟩
    rw [List.length_take, Array.length_toList, size_madeCells]
    have := Nat.mul_le_mul_right i.size hnm
    omega
  subst hL
  subst hC
  unfold Oper.wp
  simp [execOp, hop, hl, hc, hrun, Result.andThen]
  exact hK' _ _ (hK _ _ r1 (World.grownBy_alloc w _ none))

theorem Ybaf.info9 : (Ybaf.prog.info? 9).map (fun i => (i.zero, i.size, i.bytes)) = some (some (.string ⟨#[]⟩), 1, 16) := by kernel_rfl

/-- the rest word -/
def lastWord : ByteArray := ⟨#[67, 46, 117, 108, 111, 110, 103, 40, 118, 97, 46, 114, 101, 115, 116, 87, 111, 114, 100, 40, 41, 41]⟩

set_option maxHeartbeats 400000 in
theorem tail_any (F : Interp) (n : Nat) (hn : n ≤ 1024) (w : World) (hF : F.answers w.tape) :
    Calls Ybaf.prog 6 #[.int .i64 n] w fun e w' => e = .returned (.slice (some ⟨w.heap.size, 0, none⟩) (n + 1) (n + 1)) ∧
      (∃ xs : List Value, xs.length = n ∧ w'.ownsRow w.heap.size 9 1 (.slice (some ⟨w.heap.size, 0, none⟩) (n + 1) (n + 1)) (n + 1) (xs ++ [.string lastWord])) ∧ Below w.heap.size w w' := by
  obtain ⟨i0, hi, hz0, hz1, hz2⟩ := info_parts Ybaf.info9
  go_enter Ybaf.func6, Ybaf.ntmps6
  go_wp2_with (at_make; refine wpList_make_cap _ rfl _ _ 22 rfl w.heap.size 9 i0 (.string ⟨#[]⟩) 1 Ybaf.underlying22 hi hz0 hz1 _ _ _ _ n (n + 1) rfl rfl rfl (by omega) (by omega) (by rw [hz2]; omega) (by unfold maxLen; omega) (Nat.le_refl _) ?_)
  intro w1 xs0 hown0 hgrow0
  have hb0 : Below w.heap.size w w1 := (Below.refl _ _).grown hgrow0 (Nat.le_refl _) (by simp)
  clear hgrow0
  go_wp2
  go_loopw [11] (fun i wr => ∃ (k : Nat) (xs : List Value), k ≤ n ∧ i = .int .i64 k ∧ wr.ownsRow w.heap.size 9 1 (.slice (some ⟨w.heap.size, 0, none⟩) n (n + 1)) n xs ∧ Below w.heap.size w wr) (fun i _ => n - (intOf i).toNat)
  case atStart => exact ⟨0, xs0, Nat.zero_le _, rfl, hown0, hb0⟩
  case round =>
    obtain ⟨k, xs, hk, rfl, hown, hb⟩ := hrel
    have hF' := answers_open (show F.answers wr.tape by rw [hb.tape]; exact hF)
    have hsz : w.heap.size < wr.heap.size := (hown.lt w.heap.size rfl).2
    have hlen := hown.1
    by_cases hlt : k < n
    · have hc : wr.cell? ⟨w.heap.size, k, none⟩ = some (xs[k]'(by omega)) := by rw [hown.cellAt k (by omega)]; exact List.getElem?_eq_getElem _
      have hf : wr.frozen? ⟨w.heap.size, k, none⟩ = false := hown.frozenAt k
      go_wp2
      go_roundw
      case rel => exact ⟨k + 1, _, by omega, by go_num, ((hown.stored k _).1.alloc _).drew, ((hb.setCell (p := ⟨w.heap.size, k, none⟩) (Nat.le_refl _) _).alloc (by simp [World.setCell]; omega) _).drew⟩
      case measure => simp [intOf]; omega
    · go_wp2_with (at_builtin; refine wpList_append_fits _ rfl _ _ 22 rfl w.heap.size 9 i0 1 Ybaf.underlying22 hi hz1 w.heap.size n (n + 1) xs rfl (hown.alloc _) ⟨wr.heap.size, 0, none⟩ 1 1 [.string lastWord] rfl rfl (cell_one_new _ _ _) (by intro u hu; simp at hu; subst hu; rfl) (Nat.le_refl _) ?_)
      intro w2 hown2 hgrow2
      have hb2 : Below w.heap.size w w2 := (hb.alloc (by omega) _).grown hgrow2 (by simp; omega) (by simp)
      clear hgrow2
      go_wp2
      go_ret
      exact ⟨rfl, ⟨xs, by omega, hown2⟩, hb2⟩
end Go.Proofs.YbulkisqFmt
