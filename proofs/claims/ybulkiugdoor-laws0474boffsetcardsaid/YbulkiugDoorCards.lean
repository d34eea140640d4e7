/-
  DERIVED. GIVEN WITH THE SEED: THE CARDS: each row of YbulkiugDoorRows.lean that lists a variable, with what it lists TIED to the program's text (the seventh form; the later family's looks); each row that meets fmt, with fmt's text TOLD by the authors' own Lean function (tested against real Go, not proved from fmt's source: count such statements apart). THE CARD IS WHAT COUNTS. Prove the row's statement (the work); the ties are given (YbulkiugDoorTie.lean); close each card by the builder's one call (the guide's Derived/Test/ToyasCard.lean, 'card_holds'). Laid BY PROGRAM, IN A SANDBOX (cutbox-door.mjs). By AI agents, Wed Nov 11 2026. No macro, syntax, notation, axiom, sorry.
-/
import Derived.Test.YbulkiugDoorRows
import GoSem.ClaimSeven
namespace Go.Proofs.YbulkiugDoor
namespace Rows

/-- THE TIED CARD OF 'undertick.LawS0474BFresh'. -/
def lawS0474BFreshCard : Claim7 := { stood := { row := lawS0474BFreshRow, standIns := [], harness := (true, "30ae00d06e27a6412250e942993b7f7ea06e812081cd602f99ffa46358a8a007"), looks := true }, kinds := [], alts := [], laidByText := true, laidKinds := [.called], laidTests := true, laidLooks := .later }
def LawS0474BFreshCardSaid : Prop := Claim7.holds Ybad.pinned (.plain (OpenSpec.ofChange lawS0474BFreshSpec)) lawS0474BFreshCard

/-- THE TIED CARD OF 'undertick.LawS0474BOffset'. -/
def lawS0474BOffsetCard : Claim7 := { stood := { row := lawS0474BOffsetRow, standIns := [], harness := (true, "30ae00d06e27a6412250e942993b7f7ea06e812081cd602f99ffa46358a8a007"), looks := true }, kinds := [], alts := [], laidByText := true, laidKinds := [.called], laidTests := true, laidLooks := .later }
def LawS0474BOffsetCardSaid : Prop := Claim7.holds Ybad.pinned (.plain (OpenSpec.ofChange lawS0474BOffsetSpec)) lawS0474BOffsetCard
end Rows
end Go.Proofs.YbulkiugDoor
