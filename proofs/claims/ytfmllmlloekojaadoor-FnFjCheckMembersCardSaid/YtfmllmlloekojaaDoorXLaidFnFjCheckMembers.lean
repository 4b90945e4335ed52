/- What the package variables that the row of FnFjCheckMembers lists hold, as cells of memory. -/
import Derived.Test.YtfmllmlloekojaaDoorRows
import Derived.Test.YtfmllmlloekojaaDoorXLaid
set_option linter.unusedVariables false
namespace Go.Proofs.YtfmllmlloekojaaDoor.PFnFjCheckMembers
open Go Go.RowKit Go.Proofs Go.Proofs.YtfmllmlloekojaaDoor.LaidL
def cellsL : List (Nat × Nat × Value) := []
def Laid (w : World) : Prop := CellsAre cellsL w ∧ Sent 16 w ∧ Sent 15 w
theorem Laid.below {w w' : World} (h : Laid w) (hb : Below w.heap.size w w') : Laid w' := by
  obtain ⟨h0, s16, s15⟩ := h
  exact ⟨h0.below hb, s16.below hb, s15.below hb⟩
theorem Laid.s16 {w : World} (h : Laid w) : Sent 16 w := h.2.1
theorem Laid.s15 {w : World} (h : Laid w) : Sent 15 w := h.2.2
theorem sent16 {w : World} (h : laidMetH Tryd.prog Rows.fnFjCheckMembersRow.laid w) : Sent 16 w := by
  have h1 : Lib.VarReads Tryd.prog w "strconv.ErrRange" Rows.laid_strconv_ErrRange := Lib.laidMet.reads (show laidMet Tryd.prog Rows.fnFjCheckMembersRow.laid w from h) (by simp [Rows.fnFjCheckMembersRow])
  exact sent_of h1 (by kernel_rfl) (t := 67) (by kernel_rfl) Tryd.underlying67
theorem sent15 {w : World} (h : laidMetH Tryd.prog Rows.fnFjCheckMembersRow.laid w) : Sent 15 w := by
  have h1 : Lib.VarReads Tryd.prog w "strconv.ErrSyntax" Rows.laid_strconv_ErrSyntax := Lib.laidMet.reads (show laidMet Tryd.prog Rows.fnFjCheckMembersRow.laid w from h) (by simp [Rows.fnFjCheckMembersRow])
  exact sent_of h1 (by kernel_rfl) (t := 67) (by kernel_rfl) Tryd.underlying67
theorem Laid.met {w : World} (h : laidMetH Tryd.prog Rows.fnFjCheckMembersRow.laid w) : Laid w := by
  have hc : CellsAre cellsL w := fun p hp => by cases hp
  exact ⟨hc, sent16 h, sent15 h⟩
end Go.Proofs.YtfmllmlloekojaaDoor.PFnFjCheckMembers
