/-
  No cell of these rows narrows 'for every input' (looked for: loops, veiled, ifaces, maps, wideKeys, modest, calm, conditions, laid).
  DERIVED. THE GIVEN ROWS OF THIS SEAT. 3 by the template 'for every input the law returns true; each argument reads behind the call as it read before'; 0 by the template 'total and deterministic' (their statements: YbulkiugTotals.lean).
  GIVEN WITH THE SEED: the statements are not yours to turn. If you find one false, say at which input.
  Laid BY PROGRAM, IN A SANDBOX (cutbox-rows.mjs): the forced cells as the released guide's own fill.sh prints them over the translation 4f67cf10037f9ea2… (all of the seat's roots in one cut). By AI agents, Wed Nov 11 2026. No macro, syntax, notation, axiom, sorry.
-/
import Derived.Test.YbulkiugChecked
import GoSem.Claim
import GoSem.ClaimJoined
import GoSem.ClaimMapViews
import Derived.JoinedTies
import Derived.KernelRfl
namespace Go.Proofs.Ybulkiug
/- THE CELL 'sum', in the pinned program and in every row, IS THE sha256 OF THE DUMP (.gsa) THAT YbulkiugProg.lean LOADS. Nothing in Lean hashes anything: it is a label: what it is worth is what the hold of that sum in a sandbox is worth. -/
noncomputable def Yba.pinned : Pinned := { name := "ybulkiug", sum := "4f67cf10037f9ea21048bcfc8119ec60e8053f2d594a0b063f9969002699b40f", checked := Yba.checked }
namespace Rows
def none {H : Type} : Left H := { results := [], args := [] }

/-- 'undertick.LawS0474ASets': WHATEVER THE INPUT: true; the input reads as it did. -/
def lawS0474ASetsSpec : ChangeSpec := { name := "lawS0474ASets", fn := fun _ => fun
  | [d1, d2, d3, d4, d5, d6] => { results := [.lit (.bool true)], args := [d1, d2, d3, d4, d5, d6] }
  | _ => none }
def lawS0474ASetsRow : OpenClaim := { program := "ybulkiug", sum := "4f67cf10037f9ea21048bcfc8119ec60e8053f2d594a0b063f9969002699b40f", func := "example.com/undertick/undertick.LawS0474ASets", spec := "lawS0474ASets", unfollowed := true, recurses := true, apart := false }
def LawS0474ASetsSaid : Prop := lawS0474ASetsRow.holds Yba.pinned (OpenSpec.ofChange lawS0474ASetsSpec)

/-- ITS FALSE NEIGHBOUR: 'it returns false'. Refute it at one input. -/
def lawS0474ASetsWrong : ChangeSpec := { name := "lawS0474ASets", fn := fun _ => fun
  | [d1, d2, d3, d4, d5, d6] => { results := [.lit (.bool false)], args := [d1, d2, d3, d4, d5, d6] }
  | _ => none }
def LawS0474ASetsWrongFalsely : Prop := lawS0474ASetsRow.holds Yba.pinned (OpenSpec.ofChange lawS0474ASetsWrong)

/-- 'undertick.LawS0474ALastWins': WHATEVER THE INPUT: true; the input reads as it did. -/
def lawS0474ALastWinsSpec : ChangeSpec := { name := "lawS0474ALastWins", fn := fun _ => fun
  | [d1, d2, d3] => { results := [.lit (.bool true)], args := [d1, d2, d3] }
  | _ => none }
def lawS0474ALastWinsRow : OpenClaim := { program := "ybulkiug", sum := "4f67cf10037f9ea21048bcfc8119ec60e8053f2d594a0b063f9969002699b40f", func := "example.com/undertick/undertick.LawS0474ALastWins", spec := "lawS0474ALastWins", unfollowed := true, recurses := true, apart := false }
def LawS0474ALastWinsSaid : Prop := lawS0474ALastWinsRow.holds Yba.pinned (OpenSpec.ofChange lawS0474ALastWinsSpec)

/-- ITS FALSE NEIGHBOUR: 'it returns false'. Refute it at one input. -/
def lawS0474ALastWinsWrong : ChangeSpec := { name := "lawS0474ALastWins", fn := fun _ => fun
  | [d1, d2, d3] => { results := [.lit (.bool false)], args := [d1, d2, d3] }
  | _ => none }
def LawS0474ALastWinsWrongFalsely : Prop := lawS0474ALastWinsRow.holds Yba.pinned (OpenSpec.ofChange lawS0474ALastWinsWrong)

/-- 'undertick.LawS0474CNote': WHATEVER THE INPUT: true; the input reads as it did. -/
def lawS0474CNoteSpec : ChangeSpec := { name := "lawS0474CNote", fn := fun _ => fun
  | [d1, d2, d3, d4, d5, d6, d7] => { results := [.lit (.bool true)], args := [d1, d2, d3, d4, d5, d6, d7] }
  | _ => none }
def lawS0474CNoteRow : OpenClaim := { program := "ybulkiug", sum := "4f67cf10037f9ea21048bcfc8119ec60e8053f2d594a0b063f9969002699b40f", func := "example.com/undertick/undertick.LawS0474CNote", spec := "lawS0474CNote", inPlace := ["sync/atomic.StoreUint64", "sync/atomic.AddUint64", "sync/atomic.CompareAndSwapUint64", "sync/atomic.LoadUint64"], apart := false }
def LawS0474CNoteSaid : Prop := lawS0474CNoteRow.holds Yba.pinned (OpenSpec.ofChange lawS0474CNoteSpec)

/-- ITS FALSE NEIGHBOUR: 'it returns false'. Refute it at one input. -/
def lawS0474CNoteWrong : ChangeSpec := { name := "lawS0474CNote", fn := fun _ => fun
  | [d1, d2, d3, d4, d5, d6, d7] => { results := [.lit (.bool false)], args := [d1, d2, d3, d4, d5, d6, d7] }
  | _ => none }
def LawS0474CNoteWrongFalsely : Prop := lawS0474CNoteRow.holds Yba.pinned (OpenSpec.ofChange lawS0474CNoteWrong)

end Rows
end Go.Proofs.Ybulkiug
