/- What the package variables that the row of FnMtTrimSuffix lists hold, as cells of memory. -/
import Derived.Test.YtkdpkenhhcgnbaaDoorRows
import Derived.Test.YtkdpkenhhcgnbaaDoorXLaid
import Derived.Lib.LaidU8T
import Derived.Test.YtkdpkenhhcgnbaaDoorShUtf8
set_option linter.unusedVariables false
namespace Go.Proofs.YtkdpkenhhcgnbaaDoor.PFnMtTrimSuffix
open Go Go.RowKit Go.Proofs Go.Proofs.YtkdpkenhhcgnbaaDoor.LaidL
def cellsL : List (Nat × Nat × Value) := []
def Laid (w : World) : Prop := CellsAre cellsL w ∧ Lib.Utf8Tabs 3 4 w
theorem Laid.below {w w' : World} (h : Laid w) (hb : Below w.heap.size w w') : Laid w' := ⟨h.1.below hb, Utf8Tabs_below h.2 hb⟩
theorem Laid.tabs {w : World} (h : Laid w) : Lib.Utf8Tabs 3 4 w := h.2
theorem first_is : (Rows.laid_unicode_utf8_first : DataW Unit) = Lib.firstData := by kernel_rfl
theorem accept_is : (Rows.laid_unicode_utf8_acceptRanges : DataW Unit) = Lib.acceptData := by kernel_rfl
theorem tabs_met {w : World} (h : laidMetH Tryd.prog Rows.fnMtTrimSuffixRow.laid w) : Lib.Utf8Tabs 3 4 w := by
  have h0 : laidMet Tryd.prog Rows.fnMtTrimSuffixRow.laid w := h
  have h3 : Lib.VarReads Tryd.prog w "unicode/utf8.first" Rows.laid_unicode_utf8_first := Lib.laidMet.reads h0 (by simp [Rows.fnMtTrimSuffixRow])
  have h4 : Lib.VarReads Tryd.prog w "unicode/utf8.acceptRanges" Rows.laid_unicode_utf8_acceptRanges := Lib.laidMet.reads h0 (by simp [Rows.fnMtTrimSuffixRow])
  rw [first_is] at h3
  rw [accept_is] at h4
  exact utf8Tabs_of_readsT (ρ := Tryd.lays260_ren) (U8Types.of260 Tryd.lays260) ⟨by kernel_rfl, by kernel_rfl, by kernel_rfl, by kernel_rfl, by kernel_rfl, by kernel_rfl, by kernel_rfl⟩ h3 h4

theorem Laid.met {w : World} (h : laidMetH Tryd.prog Rows.fnMtTrimSuffixRow.laid w) : Laid w := by
  have hc : CellsAre cellsL w := fun p hp => by cases hp
  exact ⟨hc, tabs_met h⟩
end Go.Proofs.YtkdpkenhhcgnbaaDoor.PFnMtTrimSuffix
