/-
  No cell of these rows narrows 'for every input' (looked for: loops, veiled, ifaces, maps, wideKeys, modest, calm, conditions, laid).
  DERIVED. THE GIVEN ROWS OF THIS SEAT. 3 by the template 'for every input the law returns true; each argument reads behind the call as it read before'; 0 by the template 'total and deterministic' (their statements: YbulkisqFmtTotals.lean).
  GIVEN WITH THE SEED: the statements are not yours to turn. If you find one false, say at which input.
  Laid BY PROGRAM, IN A SANDBOX (cutbox-rows.mjs): the forced cells as the released guide's own fill.sh prints them over the translation c336e47a4d924cd4… (all of the seat's roots in one cut). By AI agents, Wed Nov 11 2026. No macro, syntax, notation, axiom, sorry.
-/
import Derived.Test.YbulkisqFmtChecked
import GoSem.Claim
import GoSem.ClaimJoined
import GoSem.ClaimMapViews
import Derived.JoinedTies
import Derived.KernelRfl
namespace Go.Proofs.YbulkisqFmt
/- THE CELL 'sum', in the pinned program and in every row, IS THE sha256 OF THE DUMP (.gsa) THAT YbulkisqFmtProg.lean LOADS. Nothing in Lean hashes anything: it is a label: what it is worth is what the hold of that sum in a sandbox is worth. -/
noncomputable def Ybaf.pinned : Pinned := { name := "ybulkisqfmt", sum := "c336e47a4d924cd49f998def1cc770691aeb6d4f33e5d517234a321d732a7003", checked := Ybaf.checked }
namespace Rows
def none {H : Type} : Left H := { results := [], args := [] }

/-- 'bind.LawS0471ALength': WHATEVER THE INPUT: true; the input reads as it did. -/
def lawS0471ALengthSpec : ChangeSpec := { name := "lawS0471ALength", fn := fun _ => fun
  | [d] => { results := [.lit (.bool true)], args := [d] }
  | _ => none }
def lawS0471ALengthRow : OpenClaim := { program := "ybulkisqfmt", sum := "c336e47a4d924cd49f998def1cc770691aeb6d4f33e5d517234a321d732a7003", func := "example.com/ferrule/ferrule/bind.LawS0471ALength", spec := "lawS0471ALength", stops := ["fmt.Sprintf"], inPlace := ["fmt.Sprintf"], apart := false }
/-- NO THEOREM (fmt's text is open here; it may be false): for the released tool's asking of the row's closed facts alone. THE STATEMENT IS 'LawS0471ALengthToldSaid' (YbulkisqFmtCards.lean). -/
def LawS0471ALengthFormAsk : Prop := lawS0471ALengthRow.holds Ybaf.pinned (OpenSpec.ofChange lawS0471ALengthSpec)

/-- ITS FALSE NEIGHBOUR: 'it returns false'. Refute it at one input. -/
def lawS0471ALengthWrong : ChangeSpec := { name := "lawS0471ALength", fn := fun _ => fun
  | [d] => { results := [.lit (.bool false)], args := [d] }
  | _ => none }
def LawS0471ALengthWrongFormAsk : Prop := lawS0471ALengthRow.holds Ybaf.pinned (OpenSpec.ofChange lawS0471ALengthWrong)

/-- 'bind.LawS0471ALastWord': WHATEVER THE INPUT: true; the input reads as it did. -/
def lawS0471ALastWordSpec : ChangeSpec := { name := "lawS0471ALastWord", fn := fun _ => fun
  | [d] => { results := [.lit (.bool true)], args := [d] }
  | _ => none }
def lawS0471ALastWordRow : OpenClaim := { program := "ybulkisqfmt", sum := "c336e47a4d924cd49f998def1cc770691aeb6d4f33e5d517234a321d732a7003", func := "example.com/ferrule/ferrule/bind.LawS0471ALastWord", spec := "lawS0471ALastWord", stops := ["fmt.Sprintf"], inPlace := ["fmt.Sprintf"], apart := false }
/-- NO THEOREM (fmt's text is open here; it may be false): for the released tool's asking of the row's closed facts alone. THE STATEMENT IS 'LawS0471ALastWordToldSaid' (YbulkisqFmtCards.lean). -/
def LawS0471ALastWordFormAsk : Prop := lawS0471ALastWordRow.holds Ybaf.pinned (OpenSpec.ofChange lawS0471ALastWordSpec)

/-- ITS FALSE NEIGHBOUR: 'it returns false'. Refute it at one input. -/
def lawS0471ALastWordWrong : ChangeSpec := { name := "lawS0471ALastWord", fn := fun _ => fun
  | [d] => { results := [.lit (.bool false)], args := [d] }
  | _ => none }
def LawS0471ALastWordWrongFormAsk : Prop := lawS0471ALastWordRow.holds Ybaf.pinned (OpenSpec.ofChange lawS0471ALastWordWrong)

/-- 'bind.LawS0471BWords': WHATEVER THE INPUT: true; the input reads as it did. -/
def lawS0471BWordsSpec : ChangeSpec := { name := "lawS0471BWords", fn := fun _ => fun
  | [d] => { results := [.lit (.bool true)], args := [d] }
  | _ => none }
def lawS0471BWordsRow : OpenClaim := { program := "ybulkisqfmt", sum := "c336e47a4d924cd49f998def1cc770691aeb6d4f33e5d517234a321d732a7003", func := "example.com/ferrule/ferrule/bind.LawS0471BWords", spec := "lawS0471BWords", stops := ["fmt.Sprintf"], inPlace := ["fmt.Sprintf"], apart := false }
/-- NO THEOREM (fmt's text is open here; it may be false): for the released tool's asking of the row's closed facts alone. THE STATEMENT IS 'LawS0471BWordsToldSaid' (YbulkisqFmtCards.lean). -/
def LawS0471BWordsFormAsk : Prop := lawS0471BWordsRow.holds Ybaf.pinned (OpenSpec.ofChange lawS0471BWordsSpec)

/-- ITS FALSE NEIGHBOUR: 'it returns false'. Refute it at one input. -/
def lawS0471BWordsWrong : ChangeSpec := { name := "lawS0471BWords", fn := fun _ => fun
  | [d] => { results := [.lit (.bool false)], args := [d] }
  | _ => none }
def LawS0471BWordsWrongFormAsk : Prop := lawS0471BWordsRow.holds Ybaf.pinned (OpenSpec.ofChange lawS0471BWordsWrong)

end Rows
end Go.Proofs.YbulkisqFmt
