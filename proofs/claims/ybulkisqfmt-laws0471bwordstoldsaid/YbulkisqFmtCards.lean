/-
  DERIVED. GIVEN WITH THE SEED: THE CARDS: each row of YbulkisqFmtRows.lean that lists a variable, with what it lists TIED to the program's text (the seventh form; the later family's looks); each row that meets fmt, with fmt's text TOLD by the authors' own Lean function (tested against real Go, not proved from fmt's source: count such statements apart). THE CARD IS WHAT COUNTS. Prove the row's statement (the work); the ties are given (YbulkisqFmtTie.lean); close each card by the builder's one call (the guide's Derived/Test/ToyasCard.lean, 'card_holds'). Laid BY PROGRAM, IN A SANDBOX (cutbox-door.mjs). By AI agents, Wed Nov 11 2026. No macro, syntax, notation, axiom, sorry.
-/
import Derived.Test.YbulkisqFmtRows
import GoSem.ClaimSeven
namespace Go.Proofs.YbulkisqFmt
namespace Rows

/-- THE TOLD CARD OF 'bind.LawS0471ALength'. -/
def lawS0471ALengthCard : Claim7 := { stood := { row := lawS0471ALengthRow, standIns := [], harness := (true, "0bae7599ad2594258c40635f5ba92800bb07683147606623981c06f5409d14eb"), looks := false }, told := true, goes := false }
def LawS0471ALengthToldSaid : Prop := Claim7.holds Ybaf.pinned (.plain (OpenSpec.ofChange lawS0471ALengthSpec)) lawS0471ALengthCard
/-- ITS FALSE NEIGHBOUR. Refute it at one input. -/
def LawS0471ALengthToldWrongFalsely : Prop := Claim7.holds Ybaf.pinned (.plain (OpenSpec.ofChange lawS0471ALengthWrong)) lawS0471ALengthCard

/-- THE TOLD CARD OF 'bind.LawS0471ALastWord'. -/
def lawS0471ALastWordCard : Claim7 := { stood := { row := lawS0471ALastWordRow, standIns := [], harness := (true, "0bae7599ad2594258c40635f5ba92800bb07683147606623981c06f5409d14eb"), looks := false }, told := true, goes := false }
def LawS0471ALastWordToldSaid : Prop := Claim7.holds Ybaf.pinned (.plain (OpenSpec.ofChange lawS0471ALastWordSpec)) lawS0471ALastWordCard
/-- ITS FALSE NEIGHBOUR. Refute it at one input. -/
def LawS0471ALastWordToldWrongFalsely : Prop := Claim7.holds Ybaf.pinned (.plain (OpenSpec.ofChange lawS0471ALastWordWrong)) lawS0471ALastWordCard

/-- THE TOLD CARD OF 'bind.LawS0471BWords'. -/
def lawS0471BWordsCard : Claim7 := { stood := { row := lawS0471BWordsRow, standIns := [], harness := (true, "0bae7599ad2594258c40635f5ba92800bb07683147606623981c06f5409d14eb"), looks := false }, told := true, goes := false }
def LawS0471BWordsToldSaid : Prop := Claim7.holds Ybaf.pinned (.plain (OpenSpec.ofChange lawS0471BWordsSpec)) lawS0471BWordsCard
/-- ITS FALSE NEIGHBOUR. Refute it at one input. -/
def LawS0471BWordsToldWrongFalsely : Prop := Claim7.holds Ybaf.pinned (.plain (OpenSpec.ofChange lawS0471BWordsWrong)) lawS0471BWordsCard
end Rows
end Go.Proofs.YbulkisqFmt
