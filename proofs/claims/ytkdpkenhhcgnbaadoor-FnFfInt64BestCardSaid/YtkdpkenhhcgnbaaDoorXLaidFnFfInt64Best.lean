/- What the package variables that the row of FnFfInt64Best lists hold, as cells of memory. -/
import Derived.Test.YtkdpkenhhcgnbaaDoorRows
import Derived.Test.YtkdpkenhhcgnbaaDoorXLaid
set_option linter.unusedVariables false
namespace Go.Proofs.YtkdpkenhhcgnbaaDoor.PFnFfInt64Best
open Go Go.RowKit Go.Proofs Go.Proofs.YtkdpkenhhcgnbaaDoor.LaidL
def cellsL : List (Nat × Nat × Value) := []
def Laid (w : World) : Prop := CellsAre cellsL w ∧ Sent 6 w ∧ Sent 5 w
theorem Laid.below {w w' : World} (h : Laid w) (hb : Below w.heap.size w w') : Laid w' := by
  obtain ⟨h0, s6, s5⟩ := h
  exact ⟨h0.below hb, s6.below hb, s5.below hb⟩
theorem Laid.s6 {w : World} (h : Laid w) : Sent 6 w := h.2.1
theorem Laid.s5 {w : World} (h : Laid w) : Sent 5 w := h.2.2
theorem sent6 {w : World} (h : laidMetH Tryd.prog Rows.fnFfInt64BestRow.laid w) : Sent 6 w := by
  have h1 : Lib.VarReads Tryd.prog w "strconv.ErrRange" Rows.laid_strconv_ErrRange := Lib.laidMet.reads (show laidMet Tryd.prog Rows.fnFfInt64BestRow.laid w from h) (by simp [Rows.fnFfInt64BestRow])
  exact sent_of h1 (by kernel_rfl) (t := 74) (by kernel_rfl) Tryd.underlying74
theorem sent5 {w : World} (h : laidMetH Tryd.prog Rows.fnFfInt64BestRow.laid w) : Sent 5 w := by
  have h1 : Lib.VarReads Tryd.prog w "strconv.ErrSyntax" Rows.laid_strconv_ErrSyntax := Lib.laidMet.reads (show laidMet Tryd.prog Rows.fnFfInt64BestRow.laid w from h) (by simp [Rows.fnFfInt64BestRow])
  exact sent_of h1 (by kernel_rfl) (t := 74) (by kernel_rfl) Tryd.underlying74
theorem Laid.met {w : World} (h : laidMetH Tryd.prog Rows.fnFfInt64BestRow.laid w) : Laid w := by
  have hc : CellsAre cellsL w := fun p hp => by cases hp
  exact ⟨hc, sent6 h, sent5 h⟩
end Go.Proofs.YtkdpkenhhcgnbaaDoor.PFnFfInt64Best
