/- What the package variables that the row of FnJpStringPlace lists hold, as cells of memory. -/
import Derived.Test.YtkdpkenhhcgnbaaDoorRows
import Derived.Test.YtkdpkenhhcgnbaaDoorXLaid
namespace Go.Proofs.YtkdpkenhhcgnbaaDoor.PFnJpStringPlace
open Go Go.RowKit Go.Proofs Go.Proofs.YtkdpkenhhcgnbaaDoor.LaidL
def cellsL : List (Nat × Nat × Value) := [(1, 0, .bool false), (1, 1, .bool false), (1, 2, .int .i64 0)]
def Laid (w : World) : Prop := CellsAre cellsL w
theorem Laid.below {w w' : World} (h : Laid w) (hb : Below w.heap.size w w') : Laid w' := CellsAre.below h hb
theorem Laid.g1_0 {w : World} (h : Laid w) : w.cell? ⟨1, 0, none⟩ = some (.bool false) := h (1, 0, .bool false) (by simp [cellsL])
theorem Laid.g1_1 {w : World} (h : Laid w) : w.cell? ⟨1, 1, none⟩ = some (.bool false) := h (1, 1, .bool false) (by simp [cellsL])
theorem Laid.g1_2 {w : World} (h : Laid w) : w.cell? ⟨1, 2, none⟩ = some (.int .i64 0) := h (1, 2, .int .i64 0) (by simp [cellsL])
theorem reads1 {w : World} (h : laidMetH Tryd.prog Rows.fnJpStringPlaceRow.laid w) : ∀ i, w.cell? ⟨1, i, none⟩ = ([.bool false, .bool false, .int .i64 0].map litV)[i]? := by
  have h1 : Lib.VarReads Tryd.prog w "pub-tetrapla/pub/jsonparser.DefaultConfig" (.agg ([.bool false, .bool false, .int .i64 0].map .lit)) := Lib.laidMet.reads (show laidMet Tryd.prog Rows.fnJpStringPlaceRow.laid w from h) (by simp [Rows.fnJpStringPlaceRow, Rows.laid_pub_tetrapla_pub_jsonparser_DefaultConfig])
  intro i
  exact var_cells h1 (by kernel_rfl) (t := 114) (by kernel_rfl) Tryd.underlying114 (by intro i f hf; match i, hf with | 0, hf => (obtain rfl := Option.some.inj hf; exact ⟨.inr (by kernel_rfl), rfl, by kernel_rfl⟩) | 1, hf => (obtain rfl := Option.some.inj hf; exact ⟨.inr (by kernel_rfl), rfl, by kernel_rfl⟩) | 2, hf => (obtain rfl := Option.some.inj hf; exact ⟨.inl ⟨.i64, by kernel_rfl⟩, rfl, by kernel_rfl⟩) | n + 3, hf => simp at hf) (by kernel_rfl) i
theorem Laid.met {w : World} (h : laidMetH Tryd.prog Rows.fnJpStringPlaceRow.laid w) : Laid w := by
  have hc : CellsAre cellsL w := by
    intro p hp
    simp only [cellsL, List.mem_cons, List.not_mem_nil, or_false] at hp
    rcases hp with rfl | rfl | rfl
    · exact reads1 h 0
    · exact reads1 h 1
    · exact reads1 h 2
  exact hc
end Go.Proofs.YtkdpkenhhcgnbaaDoor.PFnJpStringPlace
