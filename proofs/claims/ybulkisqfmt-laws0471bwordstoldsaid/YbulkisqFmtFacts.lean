/-
  THE CLOSED FACTS FOR A WALK OVER fmt.Sprintf's STOP in this seat's dump (after the worked LabelFmt.lean). Each is proved by the kernel's own evaluation.
-/
import Derived.Test.YbulkisqFmtRows
import Derived.Stop.CallBack
import Derived.Stop.IfaceNil
import GoSem.ClaimData
namespace Go.Proofs.YbulkisqFmt
open Go.Extern.Stop Go.Stop Go.Extern

-- fmt.Sprintf: function 8: a plain stop
@[go_sem] theorem Ybaf.call8 (args : Array Value) (w : World) : (callFunc 8 args).run Ybaf.prog w = ((FmtStop.sprintf #[9, 45] #[9] args).run Ybaf.prog w).andThen fun v w' => .ok (.value v) w' :=
  run_callFunc_extern Ybaf.func8 (by kernel_rfl) (by kernel_rfl) (by kernel_rfl) (by kernel_rfl) args w

@[go_sem] theorem Ybaf.guard (name : String) (w : World) : (FmtStop.guard name).run Ybaf.prog w = .ok () w := by kernel_rfl

-- the format 'C.ulong(va.gp[%d])', one operand
@[go_sem] theorem Ybaf.fmt0 : FmtStop.printed? ⟨#[67, 46, 117, 108, 111, 110, 103, 40, 118, 97, 46, 103, 112, 91, 37, 100, 93, 41]⟩ 1 = some [(0, 100, false)] := by kernel_rfl
@[go_sem] theorem Ybaf.fmt0r (w : World) : (FmtDoors.printed ⟨#[67, 46, 117, 108, 111, 110, 103, 40, 118, 97, 46, 103, 112, 91, 37, 100, 93, 41]⟩ 1).run Ybaf.prog w = .ok [(0, 100, false)] w := by kernel_rfl
-- the format '%sg%d', two operands
@[go_sem] theorem Ybaf.fmt1 : FmtStop.printed? ⟨#[37, 115, 103, 37, 100]⟩ 2 = some [(0, 115, false), (1, 100, false)] := by kernel_rfl
@[go_sem] theorem Ybaf.fmt1r (w : World) : (FmtDoors.printed ⟨#[37, 115, 103, 37, 100]⟩ 2).run Ybaf.prog w = .ok [(0, 115, false), (1, 100, false)] w := by kernel_rfl

-- what each operand type reads as
def Ybaf.shape3 : List UInt8 := [5, 3, 0, 0, 0, 0, 0, 0, 0, 105, 110, 116]
@[go_sem] theorem Ybaf.op3_100 (name : String) (x : Int) (w : World) : (FmtStop.operand name false 100 false (.iface 3 (.int .i64 x))).run Ybaf.prog w = .ok (Ybaf.shape3, Go.Extern.Stop.digits 8 (x % 2 ^ 64).toNat) w := by kernel_rfl
def Ybaf.shape9 : List UInt8 := [12, 6, 0, 0, 0, 0, 0, 0, 0, 115, 116, 114, 105, 110, 103]
@[go_sem] theorem Ybaf.op9_115 (name : String) (x : ByteArray) (w : World) : (FmtStop.operand name false 115 false (.iface 9 (.string x))).run Ybaf.prog w = .ok (Ybaf.shape9, FmtStop.pack x.data.toList) w := by kernel_rfl

/-- What fmt is asked by 'variadicTail' at index i. -/
def tailReading (i : Int) : List (List UInt8) :=
  [[67, 46, 117, 108, 111, 110, 103, 40, 118, 97, 46, 103, 112, 91, 37, 100, 93, 41], Ybaf.shape3, digits 8 (i % 18446744073709551616).toNat]
/-- What fmt is asked by 'variadicGP' at index i. -/
def gpReading (i : Int) : List (List UInt8) :=
  [[37, 115, 103, 37, 100], Ybaf.shape9, FmtStop.pack [95, 102, 101, 114, 114, 117, 108, 101, 95], Ybaf.shape3, digits 8 (i % 18446744073709551616).toNat]
end Go.Proofs.YbulkisqFmt
