/- impl.jrKind (function 39): the number of an error of jsonparser, of the three errors of its paths. -/
import Derived.Test.YtfmllmlloekojaaDoorXLaidFnJrPath
import Derived.Test.YtfmllmlloekojaaDoorProg
import Derived.Test.YtfmllmlloekojaaDoorWMore
import Derived.LaidEql
set_option linter.unusedVariables false
namespace Go.Proofs.YtfmllmlloekojaaDoor.PFnJrPath
open Go Go.RowKit Go.Proofs.YtfmllmlloekojaaDoorW.PrintWords Go.Proofs.YtfmllmlloekojaaDoor.LaidL
variable {E : ErrTab}

def impl_jrKind.f (a0 : Option Int) : Option Int :=
  match a0 with
  | none => some 0
  | some c => if c = 0 ∨ c = 1 ∨ c = 12 then some 11 else none

set_option maxHeartbeats 4000000 in
set_option maxRecDepth 100000 in
theorem impl_jrKind.calls (a0 : Option Int) (r : Int) (w : World) (hL : Laid E w) (h : impl_jrKind.f a0 = some r) :
    Calls Tryd.prog 39 #[errE E a0] w fun e w' => e = .returned (.int .i64 r) ∧ Below w.heap.size w w' := by
  unfold impl_jrKind.f at h
  have g2 := hL.s2
  have g3 := hL.s3
  have g4 := hL.s4
  have g5 := hL.s5
  have g6 := hL.s6
  have g7 := hL.s7
  have g8 := hL.s8
  have g9 := hL.s9
  have g10 := hL.s10
  have g11 := hL.s11
  cases a0 with
  | none =>
    obtain rfl := Option.some.inj h
    simp only [errE_none]
    go_enter Tryd.func39, Tryd.ntmps39
    go_wp2
    go_ret
    exact ⟨rfl, Below.refl _ _⟩
  | some c =>
    have hc : c = 0 ∨ c = 1 ∨ c = 12 := by
      dsimp only at h
      by_cases hc : c = 0 ∨ c = 1 ∨ c = 12
      · exact hc
      · rw [if_neg hc] at h; cases h
    dsimp only at h
    rw [if_pos hc] at h
    obtain rfl := Option.some.inj h
    have n2 : E c ≠ E 2 := by rcases hc with rfl | rfl | rfl <;> first | exact hL.ne (a := 0) (b := 2) (by decide) (by decide) (by decide) | exact hL.ne (a := 1) (b := 2) (by decide) (by decide) (by decide) | exact hL.ne (a := 12) (b := 2) (by decide) (by decide) (by decide)
    have n3 : E c ≠ E 3 := by rcases hc with rfl | rfl | rfl <;> first | exact hL.ne (a := 0) (b := 3) (by decide) (by decide) (by decide) | exact hL.ne (a := 1) (b := 3) (by decide) (by decide) (by decide) | exact hL.ne (a := 12) (b := 3) (by decide) (by decide) (by decide)
    have n4 : E c ≠ E 4 := by rcases hc with rfl | rfl | rfl <;> first | exact hL.ne (a := 0) (b := 4) (by decide) (by decide) (by decide) | exact hL.ne (a := 1) (b := 4) (by decide) (by decide) (by decide) | exact hL.ne (a := 12) (b := 4) (by decide) (by decide) (by decide)
    have n5 : E c ≠ E 5 := by rcases hc with rfl | rfl | rfl <;> first | exact hL.ne (a := 0) (b := 5) (by decide) (by decide) (by decide) | exact hL.ne (a := 1) (b := 5) (by decide) (by decide) (by decide) | exact hL.ne (a := 12) (b := 5) (by decide) (by decide) (by decide)
    have n6 : E c ≠ E 6 := by rcases hc with rfl | rfl | rfl <;> first | exact hL.ne (a := 0) (b := 6) (by decide) (by decide) (by decide) | exact hL.ne (a := 1) (b := 6) (by decide) (by decide) (by decide) | exact hL.ne (a := 12) (b := 6) (by decide) (by decide) (by decide)
    have n7 : E c ≠ E 7 := by rcases hc with rfl | rfl | rfl <;> first | exact hL.ne (a := 0) (b := 7) (by decide) (by decide) (by decide) | exact hL.ne (a := 1) (b := 7) (by decide) (by decide) (by decide) | exact hL.ne (a := 12) (b := 7) (by decide) (by decide) (by decide)
    have n8 : E c ≠ E 8 := by rcases hc with rfl | rfl | rfl <;> first | exact hL.ne (a := 0) (b := 8) (by decide) (by decide) (by decide) | exact hL.ne (a := 1) (b := 8) (by decide) (by decide) (by decide) | exact hL.ne (a := 12) (b := 8) (by decide) (by decide) (by decide)
    have n9 : E c ≠ E 9 := by rcases hc with rfl | rfl | rfl <;> first | exact hL.ne (a := 0) (b := 9) (by decide) (by decide) (by decide) | exact hL.ne (a := 1) (b := 9) (by decide) (by decide) (by decide) | exact hL.ne (a := 12) (b := 9) (by decide) (by decide) (by decide)
    have n10 : E c ≠ E 10 := by rcases hc with rfl | rfl | rfl <;> first | exact hL.ne (a := 0) (b := 10) (by decide) (by decide) (by decide) | exact hL.ne (a := 1) (b := 10) (by decide) (by decide) (by decide) | exact hL.ne (a := 12) (b := 10) (by decide) (by decide) (by decide)
    have n11 : E c ≠ E 11 := by rcases hc with rfl | rfl | rfl <;> first | exact hL.ne (a := 0) (b := 11) (by decide) (by decide) (by decide) | exact hL.ne (a := 1) (b := 11) (by decide) (by decide) (by decide) | exact hL.ne (a := 12) (b := 11) (by decide) (by decide) (by decide)
    obtain ⟨i, i1, i2⟩ : ∃ i, Tryd.prog.info? 128 = some i ∧ i.comparable = true := ⟨_, rfl, by kernel_rfl⟩
    obtain ⟨j, j1, j2⟩ : ∃ j, Tryd.prog.info? 130 = some j ∧ j.size ≠ 0 := ⟨_, rfl, by
      rw [show (_ : TypeInfo).size = 1 from by kernel_rfl]; decide⟩
    obtain ⟨c0, u0, b0⟩ : ∃ c0 u0, w.heap[(E c).block]? = some (.cells c0 u0 (0, 0)) := by rcases hc with rfl | rfl | rfl <;> first | exact hL.blk (a := 0) (by decide) | exact hL.blk (a := 1) (by decide) | exact hL.blk (a := 12) (by decide)
    obtain ⟨c2, u2, b2⟩ := hL.blk (a := 2) (by decide)
    have q2 := run_eql_iface_ptr_other (P := Tryd.prog) w Tryd.underlying67 Tryd.underlying128 i1 i2 j1 j2 n2 b0 b2
    obtain ⟨c3, u3, b3⟩ := hL.blk (a := 3) (by decide)
    have q3 := run_eql_iface_ptr_other (P := Tryd.prog) w Tryd.underlying67 Tryd.underlying128 i1 i2 j1 j2 n3 b0 b3
    obtain ⟨c4, u4, b4⟩ := hL.blk (a := 4) (by decide)
    have q4 := run_eql_iface_ptr_other (P := Tryd.prog) w Tryd.underlying67 Tryd.underlying128 i1 i2 j1 j2 n4 b0 b4
    obtain ⟨c5, u5, b5⟩ := hL.blk (a := 5) (by decide)
    have q5 := run_eql_iface_ptr_other (P := Tryd.prog) w Tryd.underlying67 Tryd.underlying128 i1 i2 j1 j2 n5 b0 b5
    obtain ⟨c6, u6, b6⟩ := hL.blk (a := 6) (by decide)
    have q6 := run_eql_iface_ptr_other (P := Tryd.prog) w Tryd.underlying67 Tryd.underlying128 i1 i2 j1 j2 n6 b0 b6
    obtain ⟨c7, u7, b7⟩ := hL.blk (a := 7) (by decide)
    have q7 := run_eql_iface_ptr_other (P := Tryd.prog) w Tryd.underlying67 Tryd.underlying128 i1 i2 j1 j2 n7 b0 b7
    obtain ⟨c8, u8, b8⟩ := hL.blk (a := 8) (by decide)
    have q8 := run_eql_iface_ptr_other (P := Tryd.prog) w Tryd.underlying67 Tryd.underlying128 i1 i2 j1 j2 n8 b0 b8
    obtain ⟨c9, u9, b9⟩ := hL.blk (a := 9) (by decide)
    have q9 := run_eql_iface_ptr_other (P := Tryd.prog) w Tryd.underlying67 Tryd.underlying128 i1 i2 j1 j2 n9 b0 b9
    obtain ⟨c10, u10, b10⟩ := hL.blk (a := 10) (by decide)
    have q10 := run_eql_iface_ptr_other (P := Tryd.prog) w Tryd.underlying67 Tryd.underlying128 i1 i2 j1 j2 n10 b0 b10
    obtain ⟨c11, u11, b11⟩ := hL.blk (a := 11) (by decide)
    have q11 := run_eql_iface_ptr_other (P := Tryd.prog) w Tryd.underlying67 Tryd.underlying128 i1 i2 j1 j2 n11 b0 b11
    clear b0 b2 b3 b4 b5 b6 b7 b8 b9 b10 b11 i1 i2 j1 j2 n2 n3 n4 n5 n6 n7 n8 n9 n10 n11
    simp only [errE_some]
    clear h hc
    go_enter Tryd.func39, Tryd.ntmps39
    go_wp2
    go_ret
    exact ⟨rfl, Below.refl _ _⟩

end Go.Proofs.YtfmllmlloekojaaDoor.PFnJrPath
