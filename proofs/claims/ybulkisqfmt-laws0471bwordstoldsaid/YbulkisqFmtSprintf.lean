/-
  fmt.Sprintf (function 8) by its two contracts: what it does for each of the two formats of this dump, FOR EVERY F.
-/
import Derived.Test.YbulkisqFmtFacts
import Derived.WalkKit
import Derived.WalkSpells
namespace Go.Proofs.YbulkisqFmt
open Go.RowKit Go.Extern.Stop Go.Stop Go.Extern

set_option maxHeartbeats 400000 in
theorem gp_any (F : Interp) (i : Int) (w : World) (hF : F.answers w.tape) :
    Calls Ybaf.prog 9 #[.int .i64 i] w fun e w' => e = .returned (.string (FmtStop.textOf (F "fmt.Sprintf" (gpReading i) 0))) ∧
      w' = (w.alloc (.cells #[.iface 9 (.string ⟨#[95, 102, 101, 114, 114, 117, 108, 101, 95]⟩), .iface 3 (.int .i64 i)] 20)).drew := by
  have hF' := answers_open hF
  go_enter Ybaf.func9, Ybaf.ntmps9
  go_wp2
  go_ret
  exact ⟨rfl, rfl⟩
end Go.Proofs.YbulkisqFmt
