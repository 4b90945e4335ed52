/- What the package variables that the row of FnFjRawStringOf lists hold, as cells of memory. -/
import Derived.Test.YtkhgbacbnkgafaaDoorRows
import Derived.Test.YtkhgbacbnkgafaaDoorXLaid
set_option linter.unusedVariables false
namespace Go.Proofs.YtkhgbacbnkgafaaDoor.PFnFjReadBytes
open Go Go.RowKit Go.Proofs Go.Proofs.YtkhgbacbnkgafaaDoor.LaidL
def cellsL : List (Nat × Nat × Value) := []
def Laid (w : World) : Prop := CellsAre cellsL w ∧ Sent 2 w ∧ Sent 1 w
theorem Laid.below {w w' : World} (h : Laid w) (hb : Below w.heap.size w w') : Laid w' := by
  obtain ⟨h0, s2, s1⟩ := h
  exact ⟨h0.below hb, s2.below hb, s1.below hb⟩
theorem Laid.s2 {w : World} (h : Laid w) : Sent 2 w := h.2.1
theorem Laid.s1 {w : World} (h : Laid w) : Sent 1 w := h.2.2
theorem sent2 {w : World} (h : laidMetH Tryd.prog Rows.fnFjRawStringOfRow.laid w) : Sent 2 w := by
  have h1 : Lib.VarReads Tryd.prog w "strconv.ErrRange" Rows.laid_strconv_ErrRange := Lib.laidMet.reads (show laidMet Tryd.prog Rows.fnFjRawStringOfRow.laid w from h) (by simp [Rows.fnFjRawStringOfRow])
  exact sent_of h1 (by kernel_rfl) (t := 48) (by kernel_rfl) Tryd.underlying48
theorem sent1 {w : World} (h : laidMetH Tryd.prog Rows.fnFjRawStringOfRow.laid w) : Sent 1 w := by
  have h1 : Lib.VarReads Tryd.prog w "strconv.ErrSyntax" Rows.laid_strconv_ErrSyntax := Lib.laidMet.reads (show laidMet Tryd.prog Rows.fnFjRawStringOfRow.laid w from h) (by simp [Rows.fnFjRawStringOfRow])
  exact sent_of h1 (by kernel_rfl) (t := 48) (by kernel_rfl) Tryd.underlying48
theorem Laid.met {w : World} (h : laidMetH Tryd.prog Rows.fnFjRawStringOfRow.laid w) : Laid w := by
  have hc : CellsAre cellsL w := fun p hp => by cases hp
  exact ⟨hc, sent2 h, sent1 h⟩
end Go.Proofs.YtkhgbacbnkgafaaDoor.PFnFjReadBytes
