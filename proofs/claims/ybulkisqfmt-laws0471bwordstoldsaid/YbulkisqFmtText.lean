/-
  What the told fmt.Sprintf answers for the names ('%sg%d' of '_ferrule_' and i): the very bytes, and that they are few.
-/
import Derived.Test.YbulkisqFmtFacts
import Derived.Stop.FmtTextKit
import Derived.Stop.FmtTextWidths
import Derived.Stop.Told
import Derived.Stop.Texts
import Derived.SizedLaws
namespace Go.Proofs.YbulkisqFmt
open Go.RowKit Go.Extern.Stop Go.Stop Go.Extern

theorem gp_parse : (FmtText.parse [37, 115, 103, 37, 100]).map FmtText.glue = some [.verb {} 115, .lit [103], .verb {} 100] := by rfl

/-- '_ferrule_g' and the digits of i -/
def gpText (i : Int) : List UInt8 := [95, 102, 101, 114, 114, 117, 108, 101, 95, 103] ++ Lib.itoa i

theorem gp_text (i : Int) (hw : (Lit.int .i64 i).wf = true) : FmtText.text "fmt.Sprintf" (gpReading i) = some (gpText i) := by
  have hi := FmtText.operand_int_at (sh := Ybaf.shape3) (k := .i64) rfl rfl i hw
  have hn := FmtText.operand_str_at (sh := Ybaf.shape9) rfl rfl [95, 102, 101, 114, 114, 117, 108, 101, 95] (by decide)
  rw [gpReading, FmtText.text_sprintf_glued gp_parse (FmtText.operands_cons hn (FmtText.operands_cons hi FmtText.operands_nil))]
  simp [FmtText.render, FmtText.printArg_d _ _ hw, FmtText.printArg_s_str, gpText]

theorem gp_told (F : Interp) (i : Int) (hw : (Lit.int .i64 i).wf = true) : F.told.string "fmt.Sprintf" (gpReading i) 0 = gpText i := by
  have k0 := FmtText.itoa_length_le hw
  refine told_string F (gp_text i hw) ?_
  (simp [gpText] <;> omega)

theorem size_bytes (b : ByteArray) : b.size = b.data.toList.length := by simp

theorem gp_short (F : Interp) (k : Nat) (hk : k < 1024) : (FmtStop.textOf (F.told "fmt.Sprintf" (gpReading k) 0)).size ≤ 1000 := by
  have hw : (Lit.int .i64 (k : Int)).wf = true := by simp [Lit.wf, IntKind.min, IntKind.max, IntKind.signed, IntKind.bits]; omega
  have k0 := FmtText.itoa_length_le hw
  have h := Go.Kit.textOf_list F.told "fmt.Sprintf" (gpReading k)
  rw [gp_told F k hw] at h
  have h2 : (FmtStop.textOf (F.told "fmt.Sprintf" (gpReading k) 0)).size = (gpText k).length := by
    rw [← h]
    exact size_bytes _
  rw [h2]
  simp only [gpText, List.length_append, List.length_cons, List.length_nil]
  omega
end Go.Proofs.YbulkisqFmt
