/- What the package variables that the row of FnGjMatchesLike lists hold, as cells of memory. -/
import Derived.Test.YtkhgbacbnkgafaaGreatDoorRows
import Derived.Test.YtkhgbacbnkgafaaGreatDoorXLaid
import Derived.Lib.LaidU8T
import Derived.Test.YtkhgbacbnkgafaaGreatDoorShUtf8
set_option linter.unusedVariables false
namespace Go.Proofs.YtkhgbacbnkgafaaGreatDoor.PFnGjMatchesLike
open Go Go.RowKit Go.Proofs Go.Proofs.YtkhgbacbnkgafaaGreatDoor.LaidL
def cellsL : List (Nat × Nat × Value) := [(2, 0, .int .u64 23), (2, 1, .int .u64 8), (2, 2, .int .i64 (-127)), (4, 0, .int .u64 52), (4, 1, .int .u64 11), (4, 2, .int .i64 (-1023))]
def Laid (w : World) : Prop := CellsAre cellsL w ∧ Sent 1 w ∧ Sent 0 w ∧ Lib.Utf8Tabs 8 9 w
theorem Laid.below {w w' : World} (h : Laid w) (hb : Below w.heap.size w w') : Laid w' := by
  obtain ⟨h0, s1, s0, ht⟩ := h
  exact ⟨h0.below hb, s1.below hb, s0.below hb, Utf8Tabs_below ht hb⟩
theorem Laid.s1 {w : World} (h : Laid w) : Sent 1 w := h.2.1
theorem Laid.s0 {w : World} (h : Laid w) : Sent 0 w := h.2.2.1
theorem Laid.g2_0 {w : World} (h : Laid w) : w.cell? ⟨2, 0, none⟩ = some (.int .u64 23) := h.1 (2, 0, .int .u64 23) (by simp [cellsL])
theorem Laid.g2_1 {w : World} (h : Laid w) : w.cell? ⟨2, 1, none⟩ = some (.int .u64 8) := h.1 (2, 1, .int .u64 8) (by simp [cellsL])
theorem Laid.g2_2 {w : World} (h : Laid w) : w.cell? ⟨2, 2, none⟩ = some (.int .i64 (-127)) := h.1 (2, 2, .int .i64 (-127)) (by simp [cellsL])
theorem Laid.g4_0 {w : World} (h : Laid w) : w.cell? ⟨4, 0, none⟩ = some (.int .u64 52) := h.1 (4, 0, .int .u64 52) (by simp [cellsL])
theorem Laid.g4_1 {w : World} (h : Laid w) : w.cell? ⟨4, 1, none⟩ = some (.int .u64 11) := h.1 (4, 1, .int .u64 11) (by simp [cellsL])
theorem Laid.g4_2 {w : World} (h : Laid w) : w.cell? ⟨4, 2, none⟩ = some (.int .i64 (-1023)) := h.1 (4, 2, .int .i64 (-1023)) (by simp [cellsL])
theorem Laid.tabs {w : World} (h : Laid w) : Lib.Utf8Tabs 8 9 w := h.2.2.2
theorem reads2 {w : World} (h : laidMetH Tryz.prog Rows.fnGjMatchesLikeRow.laid w) : ∀ i, w.cell? ⟨2, i, none⟩ = ([.int .u64 23, .int .u64 8, .int .i64 (-127)].map litV)[i]? := by
  have h1 : Lib.VarReads Tryz.prog w "internal/strconv.float32info" (.agg ([.int .u64 23, .int .u64 8, .int .i64 (-127)].map .lit)) := Lib.laidMet.reads (show laidMet Tryz.prog Rows.fnGjMatchesLikeRow.laid w from h) (by simp [Rows.fnGjMatchesLikeRow, Rows.laid_internal_strconv_float32info])
  intro i
  exact var_cells h1 (by kernel_rfl) (t := 101) (by kernel_rfl) Tryz.underlying101 (by intro i f hf; match i, hf with | 0, hf => (obtain rfl := Option.some.inj hf; exact ⟨.inl ⟨.u64, by kernel_rfl⟩, rfl, by kernel_rfl⟩) | 1, hf => (obtain rfl := Option.some.inj hf; exact ⟨.inl ⟨.u64, by kernel_rfl⟩, rfl, by kernel_rfl⟩) | 2, hf => (obtain rfl := Option.some.inj hf; exact ⟨.inl ⟨.i64, by kernel_rfl⟩, rfl, by kernel_rfl⟩) | n + 3, hf => simp at hf) (by kernel_rfl) i
theorem reads4 {w : World} (h : laidMetH Tryz.prog Rows.fnGjMatchesLikeRow.laid w) : ∀ i, w.cell? ⟨4, i, none⟩ = ([.int .u64 52, .int .u64 11, .int .i64 (-1023)].map litV)[i]? := by
  have h1 : Lib.VarReads Tryz.prog w "internal/strconv.float64info" (.agg ([.int .u64 52, .int .u64 11, .int .i64 (-1023)].map .lit)) := Lib.laidMet.reads (show laidMet Tryz.prog Rows.fnGjMatchesLikeRow.laid w from h) (by simp [Rows.fnGjMatchesLikeRow, Rows.laid_internal_strconv_float64info])
  intro i
  exact var_cells h1 (by kernel_rfl) (t := 101) (by kernel_rfl) Tryz.underlying101 (by intro i f hf; match i, hf with | 0, hf => (obtain rfl := Option.some.inj hf; exact ⟨.inl ⟨.u64, by kernel_rfl⟩, rfl, by kernel_rfl⟩) | 1, hf => (obtain rfl := Option.some.inj hf; exact ⟨.inl ⟨.u64, by kernel_rfl⟩, rfl, by kernel_rfl⟩) | 2, hf => (obtain rfl := Option.some.inj hf; exact ⟨.inl ⟨.i64, by kernel_rfl⟩, rfl, by kernel_rfl⟩) | n + 3, hf => simp at hf) (by kernel_rfl) i
theorem sent1 {w : World} (h : laidMetH Tryz.prog Rows.fnGjMatchesLikeRow.laid w) : Sent 1 w := by
  have h1 : Lib.VarReads Tryz.prog w "strconv.ErrRange" Rows.laid_strconv_ErrRange := Lib.laidMet.reads (show laidMet Tryz.prog Rows.fnGjMatchesLikeRow.laid w from h) (by simp [Rows.fnGjMatchesLikeRow])
  exact sent_of h1 (by kernel_rfl) (t := 61) (by kernel_rfl) Tryz.underlying61
theorem sent0 {w : World} (h : laidMetH Tryz.prog Rows.fnGjMatchesLikeRow.laid w) : Sent 0 w := by
  have h1 : Lib.VarReads Tryz.prog w "strconv.ErrSyntax" Rows.laid_strconv_ErrSyntax := Lib.laidMet.reads (show laidMet Tryz.prog Rows.fnGjMatchesLikeRow.laid w from h) (by simp [Rows.fnGjMatchesLikeRow])
  exact sent_of h1 (by kernel_rfl) (t := 61) (by kernel_rfl) Tryz.underlying61
theorem first_is : (Rows.laid_unicode_utf8_first : DataW Unit) = Lib.firstData := by kernel_rfl
theorem accept_is : (Rows.laid_unicode_utf8_acceptRanges : DataW Unit) = Lib.acceptData := by kernel_rfl
theorem tabs_met {w : World} (h : laidMetH Tryz.prog Rows.fnGjMatchesLikeRow.laid w) : Lib.Utf8Tabs 8 9 w := by
  have h0 : laidMet Tryz.prog Rows.fnGjMatchesLikeRow.laid w := h
  have h3 : Lib.VarReads Tryz.prog w "unicode/utf8.first" Rows.laid_unicode_utf8_first := Lib.laidMet.reads h0 (by simp [Rows.fnGjMatchesLikeRow])
  have h4 : Lib.VarReads Tryz.prog w "unicode/utf8.acceptRanges" Rows.laid_unicode_utf8_acceptRanges := Lib.laidMet.reads h0 (by simp [Rows.fnGjMatchesLikeRow])
  rw [first_is] at h3
  rw [accept_is] at h4
  exact utf8Tabs_of_readsT (ρ := Tryz.lays260_ren) (U8Types.of260 Tryz.lays260) ⟨by kernel_rfl, by kernel_rfl, by kernel_rfl, by kernel_rfl, by kernel_rfl, by kernel_rfl, by kernel_rfl⟩ h3 h4

theorem Laid.met {w : World} (h : laidMetH Tryz.prog Rows.fnGjMatchesLikeRow.laid w) : Laid w := by
  have hc : CellsAre cellsL w := by
    intro p hp
    simp only [cellsL, List.mem_cons, List.not_mem_nil, or_false] at hp
    rcases hp with rfl | rfl | rfl | rfl | rfl | rfl
    · exact reads2 h 0
    · exact reads2 h 1
    · exact reads2 h 2
    · exact reads4 h 0
    · exact reads4 h 1
    · exact reads4 h 2
  exact ⟨hc, sent1 h, sent0 h, tabs_met h⟩
end Go.Proofs.YtkhgbacbnkgafaaGreatDoor.PFnGjMatchesLike
