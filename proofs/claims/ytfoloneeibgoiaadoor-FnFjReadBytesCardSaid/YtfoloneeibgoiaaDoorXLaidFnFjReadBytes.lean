/- What the package variables that the row of FnFjReadBytes lists hold, as cells of memory. -/
import Derived.Test.YtfoloneeibgoiaaDoorRows
import Derived.Test.YtfoloneeibgoiaaDoorXLaid
set_option linter.unusedVariables false
namespace Go.Proofs.YtfoloneeibgoiaaDoor.PFnFjReadBytes
open Go Go.RowKit Go.Proofs Go.Proofs.YtfoloneeibgoiaaDoor.LaidL
def cellsL : List (Nat × Nat × Value) := []
def Laid (w : World) : Prop := CellsAre cellsL w ∧ Sent 9 w ∧ Sent 8 w
theorem Laid.below {w w' : World} (h : Laid w) (hb : Below w.heap.size w w') : Laid w' := by
  obtain ⟨h0, s9, s8⟩ := h
  exact ⟨h0.below hb, s9.below hb, s8.below hb⟩
theorem Laid.s9 {w : World} (h : Laid w) : Sent 9 w := h.2.1
theorem Laid.s8 {w : World} (h : Laid w) : Sent 8 w := h.2.2
theorem sent9 {w : World} (h : laidMetH Tryd.prog Rows.fnFjReadBytesRow.laid w) : Sent 9 w := by
  have h1 : Lib.VarReads Tryd.prog w "strconv.ErrRange" Rows.laid_strconv_ErrRange := Lib.laidMet.reads (show laidMet Tryd.prog Rows.fnFjReadBytesRow.laid w from h) (by simp [Rows.fnFjReadBytesRow])
  exact sent_of h1 (by kernel_rfl) (t := 42) (by kernel_rfl) Tryd.underlying42
theorem sent8 {w : World} (h : laidMetH Tryd.prog Rows.fnFjReadBytesRow.laid w) : Sent 8 w := by
  have h1 : Lib.VarReads Tryd.prog w "strconv.ErrSyntax" Rows.laid_strconv_ErrSyntax := Lib.laidMet.reads (show laidMet Tryd.prog Rows.fnFjReadBytesRow.laid w from h) (by simp [Rows.fnFjReadBytesRow])
  exact sent_of h1 (by kernel_rfl) (t := 42) (by kernel_rfl) Tryd.underlying42
theorem Laid.met {w : World} (h : laidMetH Tryd.prog Rows.fnFjReadBytesRow.laid w) : Laid w := by
  have hc : CellsAre cellsL w := fun p hp => by cases hp
  exact ⟨hc, sent9 h, sent8 h⟩
end Go.Proofs.YtfoloneeibgoiaaDoor.PFnFjReadBytes
