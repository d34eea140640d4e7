/-
  NARROWER THAN 'FOR EVERY INPUT', by the rows' own cells (each row's printed sentence says how): LawS0474BFresh: ifaces, laid · LawS0474BOffset: ifaces, laid.
  DERIVED. THE GIVEN ROWS OF THIS SEAT. 2 by the template 'for every input the law returns true; each argument reads behind the call as it read before'; 0 by the template 'total and deterministic' (their statements: YbulkiugDoorTotals.lean).
  GIVEN WITH THE SEED: the statements are not yours to turn. If you find one false, say at which input.
  Laid BY PROGRAM, IN A SANDBOX (cutbox-rows.mjs): the forced cells as the released guide's own fill.sh prints them over the translation 3581ce6798c6a3b8… (all of the seat's roots in one cut). By AI agents, Wed Nov 11 2026. No macro, syntax, notation, axiom, sorry.
-/
import Derived.Test.YbulkiugDoorChecked
import GoSem.Claim
import GoSem.ClaimJoined
import GoSem.ClaimMapViews
import Derived.JoinedTies
import Derived.KernelRfl
namespace Go.Proofs.YbulkiugDoor
/- THE CELL 'sum', in the pinned program and in every row, IS THE sha256 OF THE DUMP (.gsa) THAT YbulkiugDoorProg.lean LOADS. Nothing in Lean hashes anything: it is a label: what it is worth is what the hold of that sum in a sandbox is worth. -/
noncomputable def Ybad.pinned : Pinned := { name := "ybulkiugdoor", sum := "3581ce6798c6a3b8b89961c7e34c0f775ee50b5fe7695542c9b9cb30237bb64e", checked := Ybad.checked }
namespace Rows
def none {H : Type} : Left H := { results := [], args := [] }

/- WHAT THE LISTED PACKAGE-LEVEL VARIABLES READ AS WHEN THE CALL BEGINS. Each datum BY PROGRAM (the guide's laid-datum.mjs) off the statement by which the dump's own 'gosem.cut.vars' lays the variable. In a bare row this is a premise. The card (YbulkiugDoorCards.lean) ties it to the program's text. -/
def laid_example_com_undertick_undertick_ErrOutsideEra {H : Type} : DataW H := .iface "*errors.errorString" (.ptr (.agg [.lit (.string [117, 110, 100, 101, 114, 116, 105, 99, 107, 58, 32, 116, 105, 109, 101, 32, 111, 117, 116, 115, 105, 100, 101, 32, 78, 84, 80, 32, 101, 114, 97, 32, 48])]))

/-- 'undertick.LawS0474BFresh': WHATEVER THE INPUT: true; the input reads as it did. -/
def lawS0474BFreshSpec : ChangeSpec := { name := "lawS0474BFresh", vars := ["example.com/undertick/undertick.ErrOutsideEra"], fn := fun _ => fun
  | [d1, d2, d3, d4, d5, g1] => { results := [.lit (.bool true)], args := [d1, d2, d3, d4, d5], vars := [g1] }
  | _ => none }
def lawS0474BFreshRow : OpenClaim := { program := "ybulkiugdoor", sum := "3581ce6798c6a3b8b89961c7e34c0f775ee50b5fe7695542c9b9cb30237bb64e", func := "example.com/undertick/undertick.LawS0474BFresh", spec := "lawS0474BFresh", inPlace := ["sync/atomic.StoreInt64", "sync/atomic.LoadInt64", "sync/atomic.CompareAndSwapInt64"], unfollowed := true, recurses := true, named := ["example.com/undertick/undertick.ErrOutsideEra"], ifaces := true, apart := false, laid := [("example.com/undertick/undertick.ErrOutsideEra", laid_example_com_undertick_undertick_ErrOutsideEra)] }
def LawS0474BFreshSaid : Prop := lawS0474BFreshRow.holds Ybad.pinned (OpenSpec.ofChange lawS0474BFreshSpec)

/-- ITS FALSE NEIGHBOUR: 'it returns false'. Refute it at one input. -/
def lawS0474BFreshWrong : ChangeSpec := { name := "lawS0474BFresh", vars := ["example.com/undertick/undertick.ErrOutsideEra"], fn := fun _ => fun
  | [d1, d2, d3, d4, d5, g1] => { results := [.lit (.bool false)], args := [d1, d2, d3, d4, d5], vars := [g1] }
  | _ => none }
def LawS0474BFreshWrongFalsely : Prop := lawS0474BFreshRow.holds Ybad.pinned (OpenSpec.ofChange lawS0474BFreshWrong)

/-- 'undertick.LawS0474BOffset': WHATEVER THE INPUT: true; the input reads as it did. -/
def lawS0474BOffsetSpec : ChangeSpec := { name := "lawS0474BOffset", vars := ["example.com/undertick/undertick.ErrOutsideEra"], fn := fun _ => fun
  | [d1, d2, d3, d4, d5, d6, d7, g1] => { results := [.lit (.bool true)], args := [d1, d2, d3, d4, d5, d6, d7], vars := [g1] }
  | _ => none }
def lawS0474BOffsetRow : OpenClaim := { program := "ybulkiugdoor", sum := "3581ce6798c6a3b8b89961c7e34c0f775ee50b5fe7695542c9b9cb30237bb64e", func := "example.com/undertick/undertick.LawS0474BOffset", spec := "lawS0474BOffset", inPlace := ["sync/atomic.StoreInt64", "sync/atomic.LoadInt64", "sync/atomic.CompareAndSwapInt64"], unfollowed := true, recurses := true, named := ["example.com/undertick/undertick.ErrOutsideEra"], ifaces := true, apart := false, laid := [("example.com/undertick/undertick.ErrOutsideEra", laid_example_com_undertick_undertick_ErrOutsideEra)] }
def LawS0474BOffsetSaid : Prop := lawS0474BOffsetRow.holds Ybad.pinned (OpenSpec.ofChange lawS0474BOffsetSpec)

/-- ITS FALSE NEIGHBOUR: 'it returns false'. Refute it at one input. -/
def lawS0474BOffsetWrong : ChangeSpec := { name := "lawS0474BOffset", vars := ["example.com/undertick/undertick.ErrOutsideEra"], fn := fun _ => fun
  | [d1, d2, d3, d4, d5, d6, d7, g1] => { results := [.lit (.bool false)], args := [d1, d2, d3, d4, d5, d6, d7], vars := [g1] }
  | _ => none }
def LawS0474BOffsetWrongFalsely : Prop := lawS0474BOffsetRow.holds Ybad.pinned (OpenSpec.ofChange lawS0474BOffsetWrong)

end Rows
end Go.Proofs.YbulkiugDoor
