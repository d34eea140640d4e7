/-
  THE TIED CARD of 'LawS0474BOffset': the row out of the walk, after the worked MapyProofs.lean, MapyCard.lean and GuardProofs.lean.
-/
import Derived.Test.YbulkiugDoorRows
import Derived.Test.YbulkiugDoorTie
import Derived.Test.YbulkiugDoorCards
import Derived.Test.YbulkiugDoorOffLaw
import Derived.ProofKit
import Derived.LaidMore
import Derived.OpenShut
import Derived.Stop.Joined
import Derived.Stop.LaidErr
import Derived.WalkSmall
import Derived.SevenTiedAt
namespace Go.Proofs.YbulkiugDoor.lawS0474BOffset
open Go.ChangeShapes Go.WideShapes Go.ChangeAt Go.WideMaps Go.WideElems Go.RowKit

/-- the listed variable's name, and the name of its dynamic type, as the given row spells them -/
def errName : String := Rows.lawS0474BOffsetSpec.vars.headD ""
def errType : String := match (Rows.laid_example_com_undertick_undertick_ErrOutsideEra : DataW Unit) with
  | .iface nm _ => nm
  | _ => ""

theorem own : ownKnob Ybad.prog.godebug = none := by kernel_rfl
theorem gE : Ybad.prog.globalNamed errName = some 0 := by kernel_rfl
theorem gEType : (Ybad.prog.globals[0]?).map (·.type) = some 33 := by kernel_rfl
theorem cells91 : Ybad.prog.cellsOf 91 = 1 := by kernel_rfl
theorem cells9 : Ybad.prog.cellsOf 9 = 1 := by kernel_rfl
/-- THE ONE ROW OF THAT NAME. -/
theorem row67 (u : TypeId) (h : Ybad.prog.typeName? 3 u = some errType) : u = 67 :=
  typeName_ptr_named (nm := "errors.errorString") (by kernel_rfl) (by kernel_rfl) (by decide) u (h.trans (by kernel_rfl))

/-- The door's own heap meets the condition: three closed facts. -/
theorem door_met (os : Os) (args : Array Value) : laidMetH Ybad.prog Rows.lawS0474BOffsetRow.laid ((World.doorLaid Ybad.prog 28 os).forCall (fun _ _ => 0) ⟨#[], args, []⟩).memory :=
  laidMetH_of_parts3 (fuel := 8) (laidMet_of_run' 8 (by kernel_rfl) (by kernel_rfl)) (by kernel_rfl) (by kernel_rfl)

/-- What the condition gives the walk: the variable holds a pointer to an errors.errorString. -/
theorem of_laid {W : World} (h : laidMetH Ybad.prog Rows.lawS0474BOffsetRow.laid W) : ∃ a : Addr, W.var? Ybad.prog errName = some #[.iface 67 (.pointer (some a))] := by
  rw [MakeChecks.laidMetH_plain _ _ _ (by kernel_rfl)] at h
  have h' : laidMet Ybad.prog [(errName, Rows.laid_example_com_undertick_undertick_ErrOutsideEra)] W := h
  obtain ⟨a, _, hv, _, _, _⟩ := laid_sentinel h' gE gEType Ybad.underlying33 row67 Ybad.underlying67 Ybad.underlying91 rfl rfl Ybad.underlying9 cells91 cells9
  exact ⟨a, hv⟩

set_option maxRecDepth 100000 in
theorem lifted (os : Os) (started : os.Started) (H : Type) (enc : TypeId × Value → H) :
    ReturnsInHanded {} Ybad.checked os 4 .any (fun w args => (Rows.lawS0474BOffsetSpec.pre enc Ybad.prog Ybad.f4 [] false w args ∧ laidMetH Ybad.prog Rows.lawS0474BOffsetRow.laid w) ∧ sizedMet enc Ybad.prog Ybad.f4 (OpenSpec.ofChange Rows.lawS0474BOffsetSpec) false w args)
      (Rows.lawS0474BOffsetSpec.post enc Ybad.prog Ybad.f4 false true false false) := by
  refine returnsInHanded_of_change_and (C := Ybad.checked) (X := fun w _ => laidMetH Ybad.prog Rows.lawS0474BOffsetRow.laid w) (fun _ _ _ hh h => h.of_heap hh) own started (by kernel_rfl) Ybad.func4
    (ChangeSpec.witness_shaped (enc := enc) (C := Ybad.checked) (os := os) (X := fun w _ => laidMetH Ybad.prog Rows.lawS0474BOffsetRow.laid w) false (World.doorLaid Ybad.prog 28 os) #[.int .u32 0, .int .u32 0, .int .i64 0, .int .i8 0, .int .u8 0, .int .i16 0, .int .i64 0] 8 rfl (World.shaped_of_RefB (by kernel_rfl) (by kernel_rfl)) (by kernel_rfl) (by kernel_rfl) (by kernel_rfl) (door_met os _)) ?_
  intro W base args ds gs before hval0 hW _ _ hL _
  have hval : ∀ (j : Nat) t v, Ybad.f4.params[j]? = some t → args[j]? = some v → Value.okWide Ybad.prog W .any base t v := hval0
  have hW' := hW
  obtain ⟨p, q, hA0, hV0, rfl, hfz, hnd⟩ := hW
  have hA : DataW.TrodAll enc Ybad.prog W 0 (fun _ => true) true Ybad.f4.params.toList args.toList ds p := hA0
  have hV : DataW.TrodVars enc Ybad.prog W (fun _ => true) [errName] gs q := hV0
  rw [Ybad.params4] at hA hval
  obtain ⟨v0, vs0, d0, ds0, p0, q0, hargs, rfl, rfl, h0, r0⟩ := trodAll_cons hA
  obtain ⟨v1, vs1, d1, ds1, p1, q1, rfl, rfl, rfl, h1, r1⟩ := trodAll_cons r0
  obtain ⟨v2, vs2, d2, ds2, p2, q2, rfl, rfl, rfl, h2, r2⟩ := trodAll_cons r1
  obtain ⟨v3, vs3, d3, ds3, p3, q3, rfl, rfl, rfl, h3, r3⟩ := trodAll_cons r2
  obtain ⟨v4, vs4, d4, ds4, p4, q4, rfl, rfl, rfl, h4, r4⟩ := trodAll_cons r3
  obtain ⟨v5, vs5, d5, ds5, p5, q5, rfl, rfl, rfl, h5, r5⟩ := trodAll_cons r4
  obtain ⟨v6, vs6, d6, ds6, p6, q6, rfl, rfl, rfl, h6, r6⟩ := trodAll_cons r5
  obtain ⟨rfl, rfl, rfl⟩ := trodAll_nil r6
  obtain rfl : args = #[v0, v1, v2, v3, v4, v5, v6] := by cases args; simp_all
  obtain ⟨a0, rfl, rfl, rfl, w0⟩ := open_int Ybad.underlying22 (hval 0 22 v0 rfl rfl) h0
  obtain ⟨a1, rfl, rfl, rfl, w1⟩ := open_int Ybad.underlying22 (hval 1 22 v1 rfl rfl) h1
  obtain ⟨a2, rfl, rfl, rfl, w2⟩ := open_int Ybad.underlying2 (hval 2 2 v2 rfl rfl) h2
  obtain ⟨a3, rfl, rfl, rfl, w3⟩ := open_int Ybad.underlying46 (hval 3 46 v3 rfl rfl) h3
  obtain ⟨a4, rfl, rfl, rfl, w4⟩ := open_int Ybad.underlying5 (hval 4 5 v4 rfl rfl) h4
  obtain ⟨a5, rfl, rfl, rfl, w5⟩ := open_int Ybad.underlying47 (hval 5 47 v5 rfl rfl) h5
  obtain ⟨a6, rfl, rfl, rfl, w6⟩ := open_int Ybad.underlying2 (hval 6 2 v6 rfl rfl) h6
  obtain ⟨ad, hv⟩ := of_laid hL
  obtain ⟨rfl, rfl⟩ := hV.unique (vars_read1 enc gE gEType Ybad.underlying33 hv trivial _)
  have hg : W.cell? ⟨0, 0, none⟩ = some (.iface 67 (.pointer (some ad))) := by simpa using World.var?_cell gE hv 0
  have hz : 0 < W.heap.size := World.block_lt_of_cell? W ⟨0, 0, none⟩ hg
  clear hA0 hV0 hval0
  have b0 := bounds_u32 w0
  have b1 := bounds_u32 w1
  have b3 := bounds_i8 w3
  have b4 := bounds_u8 w4
  have b5 := bounds_i16 w5
  refine (off_any a0 a1 a2 a3 a4 a5 a6 ad W (by omega) (by omega) (by omega) (by omega) (by omega) (by omega) (by omega) (by omega) (by omega) (by omega) hg hz).mono fun e W' ⟨he, hb⟩ => ?_
  subst he
  refine ⟨_, rfl, _, _, _, [], [], [.cell 0 0], hW', ?_, ?_, ?_, hb.frame _, fun h => by cases h⟩
  · exact trodAll_cons_mk (shut_bool Ybad.underlying4 _) trodAll_mk0
  · exact (trodAll_cons_mk (shut_int Ybad.underlying22 w0) (trodAll_cons_mk (shut_int Ybad.underlying22 w1) (trodAll_cons_mk (shut_int Ybad.underlying2 w2) (trodAll_cons_mk (shut_int Ybad.underlying46 w3) (trodAll_cons_mk (shut_int Ybad.underlying5 w4) (trodAll_cons_mk (shut_int Ybad.underlying47 w5) (trodAll_cons_mk (shut_int Ybad.underlying2 w6) trodAll_mk0)))))))
  · exact vars_read1 enc gE gEType Ybad.underlying33 (var?_below hb gE hz hv) trivial _

theorem over : Rows.lawS0474BOffsetRow.holds Ybad.pinned (OpenSpec.ofChange Rows.lawS0474BOffsetSpec) :=
  OpenClaim.holds_of_wide 4 Ybad.f4 rfl rfl rfl rfl rfl rfl rfl ⟨rfl, rfl, rfl, rfl, rfl⟩ rfl rfl rfl rfl rfl (by kernel_rfl) Ybad.func4 (by kernel_rfl)
    (of_decide_eq_true (by kernel_rfl)) (by unfold Func.isWrapper; first | (rw [if_pos (by decide +kernel)]; kernel_rfl) | (rw [if_neg (by decide +kernel)]; exact ⟨rfl, rfl⟩))
    (fun os started H enc _ => lifted os started H enc)

/-- ████ THE STATEMENT ████ -/
theorem proved : Rows.LawS0474BOffsetCardSaid :=
  Claim7.holds_tied_plain_at .later [] [.called] true (true, "30ae00d06e27a6412250e942993b7f7ea06e812081cd602f99ffa46358a8a007") true
    over (fun _ h => by cases h) (by kernel_rfl) (fun _ h => by cases h) lawS0474BOffset_row_tie rfl ⟨rfl, rfl⟩ (by kernel_rfl) rfl
    (fun f fn hf hfn => by
      obtain rfl : f = 4 := Option.some.inj ((show Ybad.prog.funcNamed Rows.lawS0474BOffsetRow.func = some 4 by kernel_rfl).symm.trans hf) |>.symm
      obtain rfl : fn = Ybad.f4 := (Option.some.inj (Ybad.func4.symm.trans hfn)).symm
      exact ⟨by kernel_rfl, fun j t ht => by
        rw [Ybad.params4] at ht
        have hm : t ∈ [22, 22, 2, 46, 5, 47, 2] := by simpa using Array.mem_of_getElem? ht
        have hall : ([22, 22, 2, 46, 5, 47, 2].all fun u => !Ybad.prog.wantsStandIn u) = true := by kernel_rfl
        exact (show Ybad.prog.wantsStandIn t = false by simpa using List.all_eq_true.1 hall t hm)⟩)
    (by kernel_rfl)
#print axioms proved
end Go.Proofs.YbulkiugDoor.lawS0474BOffset
