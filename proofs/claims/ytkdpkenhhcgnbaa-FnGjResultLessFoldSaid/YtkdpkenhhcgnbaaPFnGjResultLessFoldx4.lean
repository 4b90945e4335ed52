-- Written for this claim by this session's own program (wip/xprint).
import Derived.Test.YtkdpkenhhcgnbaaPFnGjResultLessFoldx0
import Derived.Test.YtkdpkenhhcgnbaaPFnGjResultLessFoldx3
namespace Go.Proofs.Ytkdpkenhhcgnbaa.PFnGjResultLessFold
open Go.RowKit Go.Proofs.YtkdpkenhhcgnbaaW.PrintWords Go.Proofs.YtkdpkenhhcgnbaaW.PrintLast Go.Proofs.YtkdpkenhhcgnbaaW.PrintMore
attribute [local go_sem] run_store_float max2_int min2_int max_two min_two max_three min_three max_four min_four   -- for this text's walks alone
set_option linter.unusedVariables false
set_option linter.unusedSimpArgs false

/-! ### laws_FnGjResultLessFold: function 3 -/
def laws_FnGjResultLessFold.j0 : Nat → ByteArray → ByteArray → Bool → Option (Bool)
  | 0, _, _, _ => none
  | k + 1, x0, x1, x13 => if x13 = true then (some true) else ((spec_Small.f x0).bind fun t151 => ((spec_Small.f x1).bind fun t152 => ((laws_gjString.f k x0).bind fun bt153 => ((laws_gjString.f k x1).bind fun bt158 => ((impl_GjResultLess.f k bt153.1 bt153.2.1 bt153.2.2.1 bt153.2.2.2.1 bt153.2.2.2.2 bt158.1 bt158.2.1 bt158.2.2.1 bt158.2.2.2.1 bt158.2.2.2.2 false).bind fun t163 => (if (t163 == (Op.bytesLess t151.toList t152.toList)) = true then ((spec_Small.f x0).bind fun t164 => ((laws_gjString.f k t164).bind fun bt165 => ((spec_Small.f x1).bind fun t170 => ((laws_gjString.f k t170).bind fun bt171 => ((impl_GjResultLess.f k bt165.1 bt165.2.1 bt165.2.2.1 bt165.2.2.2.1 bt165.2.2.2.2 bt171.1 bt171.2.1 bt171.2.2.1 bt171.2.2.2.1 bt171.2.2.2.2 true).bind fun t176 => (if (t176 == (Op.bytesLess t151.toList t152.toList)) = true then ((laws_gjString.f k x0).bind fun bt177 => ((laws_gjString.f k x1).bind fun bt182 => ((impl_GjResultLess.f k bt177.1 bt177.2.1 bt177.2.2.1 bt177.2.2.2.1 bt177.2.2.2.2 bt182.1 bt182.2.1 bt182.2.2.1 bt182.2.2.2.1 bt182.2.2.2.2 true).bind fun t187 => (some (t187 == (Op.bytesLess x0.toList x1.toList)))))) else (some false))))))) else (some false)))))))
def laws_FnGjResultLessFold.f (k : Nat) (a0 : ByteArray) (a1 : ByteArray) : Option (Bool) := if (a0.size : Int) > 2147483647 then (laws_FnGjResultLessFold.j0 k a0 a1 true) else (laws_FnGjResultLessFold.j0 k a0 a1 (decide ((a1.size : Int) > 2147483647)))
theorem laws_FnGjResultLessFold.mono_l : ∀ k, (∀ y0 y1 y2, LeO (laws_FnGjResultLessFold.j0 k y0 y1 y2) (laws_FnGjResultLessFold.j0 (k + 1) y0 y1 y2))
  | 0 => fun _ _ _ r h => by simp [laws_FnGjResultLessFold.j0] at h
  | k + 1 => by
    have ih0 := laws_FnGjResultLessFold.mono_l k
    · intro y0 y1 y2
      unfold laws_FnGjResultLessFold.j0
      repeat' first
      | (with_reducible exact ih0 _ _ _)
      | (with_reducible exact impl_GjResultLess.mono _ _ _ _ _ _ _ _ _ _ _ _)
      | (with_reducible exact laws_gjString.mono _ _)
      | (with_reducible exact LeO.refl _)
      | (with_reducible exact LeO.none _)
      | (with_reducible refine LeO.ite ?_ ?_)
      | (with_reducible refine LeO.bind ?_ (fun _ => ?_))
      | exact ih0 _ _ _
      | exact impl_GjResultLess.mono _ _ _ _ _ _ _ _ _ _ _ _
      | exact laws_gjString.mono _ _
      | exact LeO.none _
      | refine LeO.ite ?_ ?_
      | refine LeO.bind ?_ (fun _ => ?_)
theorem laws_FnGjResultLessFold.mono : ∀ a0 a1 k, LeO (laws_FnGjResultLessFold.f k a0 a1) (laws_FnGjResultLessFold.f (k + 1) a0 a1) := by
  intro a0 a1 k
  have ih0 := laws_FnGjResultLessFold.mono_l k
  unfold laws_FnGjResultLessFold.f
  repeat' first
      | (with_reducible exact ih0 _ _ _)
      | (with_reducible exact impl_GjResultLess.mono _ _ _ _ _ _ _ _ _ _ _ _)
      | (with_reducible exact laws_gjString.mono _ _)
      | (with_reducible exact LeO.refl _)
      | (with_reducible exact LeO.none _)
      | (with_reducible refine LeO.ite ?_ ?_)
      | (with_reducible refine LeO.bind ?_ (fun _ => ?_))
      | exact ih0 _ _ _
      | exact impl_GjResultLess.mono _ _ _ _ _ _ _ _ _ _ _ _
      | exact laws_gjString.mono _ _
      | exact LeO.none _
      | refine LeO.ite ?_ ?_
      | refine LeO.bind ?_ (fun _ => ?_)
set_option maxHeartbeats 8000000 in
set_option maxRecDepth 100000 in
theorem laws_FnGjResultLessFold.calls (k : Nat) (a0 : ByteArray) (a1 : ByteArray) (r : Bool) (w : World) (h : laws_FnGjResultLessFold.f k a0 a1 = some r) :
    Calls Try.prog 3 #[.string a0, .string a1] w fun e w' => e = .returned (.bool r) ∧ Below w.heap.size w w' := by
  have HB := Aside0.mk (Below.refl w.heap.size w)
  have H : (if (a0.size : Int) > 2147483647 then (laws_FnGjResultLessFold.j0 k a0 a1 true) else (laws_FnGjResultLessFold.j0 k a0 a1 (decide ((a1.size : Int) > 2147483647)))) = some r := h
  clear h
  have HC3 := Aside0.mk H
  clear H
  go_enter Try.func3, Try.ntmps3
  go_upto_region 1 with (fail)
  go_cut [13] (fun v13 wc => ∃ (kq : Nat) (x13_2 : Bool), v13 = .bool x13_2 ∧ Aside0 (laws_FnGjResultLessFold.j0 kq a0 a1 x13_2 = some r) ∧ Aside0 (kq ≤ k) ∧ Aside0 (Below w.heap.size w wc))
  case first =>
    have H := HC3.out
    clear HC3
    by_cases c4 : (a0.size : Int) > 2147483647
    · rw [if_pos c4] at H
      have c4b0 : decide (2147483647 < (a0.size : Int)) = true := decide_eq_true c4
      have c4b1 : decide (2147483647 < a0.size) = true := decide_eq_true (by omega)
      clear c4
      (first | rw [c4b0] | (simp only [i64_w, i32_w]; rw [c4b0]) | skip)
      have H' := Aside0.mk H
      clear H
      go_wp2
      go_meet
      case rel => exact ⟨_, (true), (by first | rfl | (simp; done) | (simp [*]; done)), H', ⟨by first | omega | exact Nat.le_refl _⟩, ⟨by repeat (first | (with_reducible first | exact HB.out | apply below_alloc | apply pw_below_drewN | apply below_drew1) | exact HB.out)⟩⟩
    · rw [if_neg c4] at H
      have c4b0 : decide (2147483647 < (a0.size : Int)) = false := decide_eq_false c4
      have c4b1 : decide (2147483647 < a0.size) = false := decide_eq_false (by omega)
      clear c4
      (first | rw [c4b0] | (simp only [i64_w, i32_w]; rw [c4b0]) | skip)
      have H' := Aside0.mk H
      clear H
      go_wp2
      go_meet
      case rel => exact ⟨_, (decide ((a1.size : Int) > 2147483647)), (by first | rfl | (simp; done) | (simp [*]; done)), H', ⟨by first | omega | exact Nat.le_refl _⟩, ⟨by repeat (first | (with_reducible first | exact HB.out | apply below_alloc | apply pw_below_drewN | apply below_drew1) | exact HB.out)⟩⟩
  case rest =>
    clear HC3
    try clear p2
    try clear c3
    try clear c4
    try clear c4b0
    try clear c4b1
    obtain ⟨kq, x13_2, rfl, HA, HJ2, HB⟩ := hcut
    cases kq with
    | zero => exact absurd HA.out (by simp [laws_FnGjResultLessFold.j0])
    | succ kj2 =>
      have H := HA.out
      clear HA
      simp only [laws_FnGjResultLessFold.j0] at H
      by_cases c5 : x13_2 = true
      · subst c5
        have H1 : (some true) = some r := by rw [if_pos rfl] at H; exact H
        clear H
        have H := H1
        clear H1
        obtain rfl := Option.some.inj H
        go_wp2
        go_ret
        exact ⟨by first | rfl | (simp [errW_none, errW_some] <;> rfl) | (simp [*, errW_none, errW_some] <;> rfl), by repeat (first | (with_reducible first | exact HB.out | apply below_alloc | apply pw_below_drewN | apply below_drew1) | exact HB.out)⟩
      · replace c5 := Bool.eq_false_iff.mpr c5
        subst c5
        have H1 : ((spec_Small.f a0).bind fun t151 => ((spec_Small.f a1).bind fun t152 => ((laws_gjString.f kj2 a0).bind fun bt153 => ((laws_gjString.f kj2 a1).bind fun bt158 => ((impl_GjResultLess.f kj2 bt153.1 bt153.2.1 bt153.2.2.1 bt153.2.2.2.1 bt153.2.2.2.2 bt158.1 bt158.2.1 bt158.2.2.1 bt158.2.2.2.1 bt158.2.2.2.2 false).bind fun t163 => (if (t163 == (Op.bytesLess t151.toList t152.toList)) = true then ((spec_Small.f a0).bind fun t164 => ((laws_gjString.f kj2 t164).bind fun bt165 => ((spec_Small.f a1).bind fun t170 => ((laws_gjString.f kj2 t170).bind fun bt171 => ((impl_GjResultLess.f kj2 bt165.1 bt165.2.1 bt165.2.2.1 bt165.2.2.2.1 bt165.2.2.2.2 bt171.1 bt171.2.1 bt171.2.2.1 bt171.2.2.2.1 bt171.2.2.2.2 true).bind fun t176 => (if (t176 == (Op.bytesLess t151.toList t152.toList)) = true then ((laws_gjString.f kj2 a0).bind fun bt177 => ((laws_gjString.f kj2 a1).bind fun bt182 => ((impl_GjResultLess.f kj2 bt177.1 bt177.2.1 bt177.2.2.1 bt177.2.2.2.1 bt177.2.2.2.2 bt182.1 bt182.2.1 bt182.2.2.1 bt182.2.2.2.1 bt182.2.2.2.2 true).bind fun t187 => (some (t187 == (Op.bytesLess a0.toList a1.toList)))))) else (some false))))))) else (some false))))))) = some r := by rw [if_neg (show ¬ (false = true) by decide)] at H; exact H
        clear H
        have H := H1
        clear H1
        replace H := Option.bind_eq_some_iff.mp H
        obtain ⟨t151, A60, H⟩ := H
        replace H : ((spec_Small.f a1).bind fun t152 => ((laws_gjString.f kj2 a0).bind fun bt153 => ((laws_gjString.f kj2 a1).bind fun bt158 => ((impl_GjResultLess.f kj2 bt153.1 bt153.2.1 bt153.2.2.1 bt153.2.2.2.1 bt153.2.2.2.2 bt158.1 bt158.2.1 bt158.2.2.1 bt158.2.2.2.1 bt158.2.2.2.2 false).bind fun t163 => (if (t163 == (Op.bytesLess t151.toList t152.toList)) = true then ((spec_Small.f a0).bind fun t164 => ((laws_gjString.f kj2 t164).bind fun bt165 => ((spec_Small.f a1).bind fun t170 => ((laws_gjString.f kj2 t170).bind fun bt171 => ((impl_GjResultLess.f kj2 bt165.1 bt165.2.1 bt165.2.2.1 bt165.2.2.2.1 bt165.2.2.2.2 bt171.1 bt171.2.1 bt171.2.2.1 bt171.2.2.2.1 bt171.2.2.2.2 true).bind fun t176 => (if (t176 == (Op.bytesLess t151.toList t152.toList)) = true then ((laws_gjString.f kj2 a0).bind fun bt177 => ((laws_gjString.f kj2 a1).bind fun bt182 => ((impl_GjResultLess.f kj2 bt177.1 bt177.2.1 bt177.2.2.1 bt177.2.2.2.1 bt177.2.2.2.2 bt182.1 bt182.2.1 bt182.2.2.1 bt182.2.2.2.1 bt182.2.2.2.2 true).bind fun t187 => (some (t187 == (Op.bytesLess a0.toList a1.toList)))))) else (some false))))))) else (some false)))))) = some r := H
        have A6 := Aside0.mk A60
        clear A60
        replace H := Option.bind_eq_some_iff.mp H
        obtain ⟨t152, A70, H⟩ := H
        replace H : ((laws_gjString.f kj2 a0).bind fun bt153 => ((laws_gjString.f kj2 a1).bind fun bt158 => ((impl_GjResultLess.f kj2 bt153.1 bt153.2.1 bt153.2.2.1 bt153.2.2.2.1 bt153.2.2.2.2 bt158.1 bt158.2.1 bt158.2.2.1 bt158.2.2.2.1 bt158.2.2.2.2 false).bind fun t163 => (if (t163 == (Op.bytesLess t151.toList t152.toList)) = true then ((spec_Small.f a0).bind fun t164 => ((laws_gjString.f kj2 t164).bind fun bt165 => ((spec_Small.f a1).bind fun t170 => ((laws_gjString.f kj2 t170).bind fun bt171 => ((impl_GjResultLess.f kj2 bt165.1 bt165.2.1 bt165.2.2.1 bt165.2.2.2.1 bt165.2.2.2.2 bt171.1 bt171.2.1 bt171.2.2.1 bt171.2.2.2.1 bt171.2.2.2.2 true).bind fun t176 => (if (t176 == (Op.bytesLess t151.toList t152.toList)) = true then ((laws_gjString.f kj2 a0).bind fun bt177 => ((laws_gjString.f kj2 a1).bind fun bt182 => ((impl_GjResultLess.f kj2 bt177.1 bt177.2.1 bt177.2.2.1 bt177.2.2.2.1 bt177.2.2.2.2 bt182.1 bt182.2.1 bt182.2.2.1 bt182.2.2.2.1 bt182.2.2.2.2 true).bind fun t187 => (some (t187 == (Op.bytesLess a0.toList a1.toList)))))) else (some false))))))) else (some false))))) = some r := H
        have A7 := Aside0.mk A70
        clear A70
        replace H := Option.bind_eq_some_iff.mp H
        obtain ⟨⟨t153, t154, t155, t156, t157⟩, A80, H⟩ := H
        replace H : ((laws_gjString.f kj2 a1).bind fun bt158 => ((impl_GjResultLess.f kj2 t153 t154 t155 t156 t157 bt158.1 bt158.2.1 bt158.2.2.1 bt158.2.2.2.1 bt158.2.2.2.2 false).bind fun t163 => (if (t163 == (Op.bytesLess t151.toList t152.toList)) = true then ((spec_Small.f a0).bind fun t164 => ((laws_gjString.f kj2 t164).bind fun bt165 => ((spec_Small.f a1).bind fun t170 => ((laws_gjString.f kj2 t170).bind fun bt171 => ((impl_GjResultLess.f kj2 bt165.1 bt165.2.1 bt165.2.2.1 bt165.2.2.2.1 bt165.2.2.2.2 bt171.1 bt171.2.1 bt171.2.2.1 bt171.2.2.2.1 bt171.2.2.2.2 true).bind fun t176 => (if (t176 == (Op.bytesLess t151.toList t152.toList)) = true then ((laws_gjString.f kj2 a0).bind fun bt177 => ((laws_gjString.f kj2 a1).bind fun bt182 => ((impl_GjResultLess.f kj2 bt177.1 bt177.2.1 bt177.2.2.1 bt177.2.2.2.1 bt177.2.2.2.2 bt182.1 bt182.2.1 bt182.2.2.1 bt182.2.2.2.1 bt182.2.2.2.2 true).bind fun t187 => (some (t187 == (Op.bytesLess a0.toList a1.toList)))))) else (some false))))))) else (some false)))) = some r := H
        have A8 := Aside0.mk A80
        clear A80
        replace H := Option.bind_eq_some_iff.mp H
        obtain ⟨⟨t158, t159, t160, t161, t162⟩, A90, H⟩ := H
        replace H : ((impl_GjResultLess.f kj2 t153 t154 t155 t156 t157 t158 t159 t160 t161 t162 false).bind fun t163 => (if (t163 == (Op.bytesLess t151.toList t152.toList)) = true then ((spec_Small.f a0).bind fun t164 => ((laws_gjString.f kj2 t164).bind fun bt165 => ((spec_Small.f a1).bind fun t170 => ((laws_gjString.f kj2 t170).bind fun bt171 => ((impl_GjResultLess.f kj2 bt165.1 bt165.2.1 bt165.2.2.1 bt165.2.2.2.1 bt165.2.2.2.2 bt171.1 bt171.2.1 bt171.2.2.1 bt171.2.2.2.1 bt171.2.2.2.2 true).bind fun t176 => (if (t176 == (Op.bytesLess t151.toList t152.toList)) = true then ((laws_gjString.f kj2 a0).bind fun bt177 => ((laws_gjString.f kj2 a1).bind fun bt182 => ((impl_GjResultLess.f kj2 bt177.1 bt177.2.1 bt177.2.2.1 bt177.2.2.2.1 bt177.2.2.2.2 bt182.1 bt182.2.1 bt182.2.2.1 bt182.2.2.2.1 bt182.2.2.2.2 true).bind fun t187 => (some (t187 == (Op.bytesLess a0.toList a1.toList)))))) else (some false))))))) else (some false))) = some r := H
        have A9 := Aside0.mk A90
        clear A90
        replace H := Option.bind_eq_some_iff.mp H
        obtain ⟨t163, A100, H⟩ := H
        replace H : (if (t163 == (Op.bytesLess t151.toList t152.toList)) = true then ((spec_Small.f a0).bind fun t164 => ((laws_gjString.f kj2 t164).bind fun bt165 => ((spec_Small.f a1).bind fun t170 => ((laws_gjString.f kj2 t170).bind fun bt171 => ((impl_GjResultLess.f kj2 bt165.1 bt165.2.1 bt165.2.2.1 bt165.2.2.2.1 bt165.2.2.2.2 bt171.1 bt171.2.1 bt171.2.2.1 bt171.2.2.2.1 bt171.2.2.2.2 true).bind fun t176 => (if (t176 == (Op.bytesLess t151.toList t152.toList)) = true then ((laws_gjString.f kj2 a0).bind fun bt177 => ((laws_gjString.f kj2 a1).bind fun bt182 => ((impl_GjResultLess.f kj2 bt177.1 bt177.2.1 bt177.2.2.1 bt177.2.2.2.1 bt177.2.2.2.2 bt182.1 bt182.2.1 bt182.2.2.1 bt182.2.2.2.1 bt182.2.2.2.2 true).bind fun t187 => (some (t187 == (Op.bytesLess a0.toList a1.toList)))))) else (some false))))))) else (some false)) = some r := H
        have A10 := Aside0.mk A100
        clear A100
        by_cases c11 : (t163 == (Op.bytesLess t151.toList t152.toList)) = true
        · rw [if_pos c11] at H
          have c11b0 : (t163 == (Op.bytesLess t151.toList t152.toList)) = true := c11
          (try (have c11b1 : decide (t163 = (Op.bytesLess t151.toList t152.toList)) = true := by simpa using c11))
          (try (have c11b2 : (t163 == (Op.bytesLess t151.toList t152.toList)) = true := by simpa using c11))
          clear c11
          replace H := Option.bind_eq_some_iff.mp H
          obtain ⟨t164, A120, H⟩ := H
          replace H : ((laws_gjString.f kj2 t164).bind fun bt165 => ((spec_Small.f a1).bind fun t170 => ((laws_gjString.f kj2 t170).bind fun bt171 => ((impl_GjResultLess.f kj2 bt165.1 bt165.2.1 bt165.2.2.1 bt165.2.2.2.1 bt165.2.2.2.2 bt171.1 bt171.2.1 bt171.2.2.1 bt171.2.2.2.1 bt171.2.2.2.2 true).bind fun t176 => (if (t176 == (Op.bytesLess t151.toList t152.toList)) = true then ((laws_gjString.f kj2 a0).bind fun bt177 => ((laws_gjString.f kj2 a1).bind fun bt182 => ((impl_GjResultLess.f kj2 bt177.1 bt177.2.1 bt177.2.2.1 bt177.2.2.2.1 bt177.2.2.2.2 bt182.1 bt182.2.1 bt182.2.2.1 bt182.2.2.2.1 bt182.2.2.2.2 true).bind fun t187 => (some (t187 == (Op.bytesLess a0.toList a1.toList)))))) else (some false)))))) = some r := H
          have A12 := Aside0.mk A120
          clear A120
          replace H := Option.bind_eq_some_iff.mp H
          obtain ⟨⟨t165, t166, t167, t168, t169⟩, A130, H⟩ := H
          replace H : ((spec_Small.f a1).bind fun t170 => ((laws_gjString.f kj2 t170).bind fun bt171 => ((impl_GjResultLess.f kj2 t165 t166 t167 t168 t169 bt171.1 bt171.2.1 bt171.2.2.1 bt171.2.2.2.1 bt171.2.2.2.2 true).bind fun t176 => (if (t176 == (Op.bytesLess t151.toList t152.toList)) = true then ((laws_gjString.f kj2 a0).bind fun bt177 => ((laws_gjString.f kj2 a1).bind fun bt182 => ((impl_GjResultLess.f kj2 bt177.1 bt177.2.1 bt177.2.2.1 bt177.2.2.2.1 bt177.2.2.2.2 bt182.1 bt182.2.1 bt182.2.2.1 bt182.2.2.2.1 bt182.2.2.2.2 true).bind fun t187 => (some (t187 == (Op.bytesLess a0.toList a1.toList)))))) else (some false))))) = some r := H
          have A13 := Aside0.mk A130
          clear A130
          replace H := Option.bind_eq_some_iff.mp H
          obtain ⟨t170, A140, H⟩ := H
          replace H : ((laws_gjString.f kj2 t170).bind fun bt171 => ((impl_GjResultLess.f kj2 t165 t166 t167 t168 t169 bt171.1 bt171.2.1 bt171.2.2.1 bt171.2.2.2.1 bt171.2.2.2.2 true).bind fun t176 => (if (t176 == (Op.bytesLess t151.toList t152.toList)) = true then ((laws_gjString.f kj2 a0).bind fun bt177 => ((laws_gjString.f kj2 a1).bind fun bt182 => ((impl_GjResultLess.f kj2 bt177.1 bt177.2.1 bt177.2.2.1 bt177.2.2.2.1 bt177.2.2.2.2 bt182.1 bt182.2.1 bt182.2.2.1 bt182.2.2.2.1 bt182.2.2.2.2 true).bind fun t187 => (some (t187 == (Op.bytesLess a0.toList a1.toList)))))) else (some false)))) = some r := H
          have A14 := Aside0.mk A140
          clear A140
          replace H := Option.bind_eq_some_iff.mp H
          obtain ⟨⟨t171, t172, t173, t174, t175⟩, A150, H⟩ := H
          replace H : ((impl_GjResultLess.f kj2 t165 t166 t167 t168 t169 t171 t172 t173 t174 t175 true).bind fun t176 => (if (t176 == (Op.bytesLess t151.toList t152.toList)) = true then ((laws_gjString.f kj2 a0).bind fun bt177 => ((laws_gjString.f kj2 a1).bind fun bt182 => ((impl_GjResultLess.f kj2 bt177.1 bt177.2.1 bt177.2.2.1 bt177.2.2.2.1 bt177.2.2.2.2 bt182.1 bt182.2.1 bt182.2.2.1 bt182.2.2.2.1 bt182.2.2.2.2 true).bind fun t187 => (some (t187 == (Op.bytesLess a0.toList a1.toList)))))) else (some false))) = some r := H
          have A15 := Aside0.mk A150
          clear A150
          replace H := Option.bind_eq_some_iff.mp H
          obtain ⟨t176, A160, H⟩ := H
          replace H : (if (t176 == (Op.bytesLess t151.toList t152.toList)) = true then ((laws_gjString.f kj2 a0).bind fun bt177 => ((laws_gjString.f kj2 a1).bind fun bt182 => ((impl_GjResultLess.f kj2 bt177.1 bt177.2.1 bt177.2.2.1 bt177.2.2.2.1 bt177.2.2.2.2 bt182.1 bt182.2.1 bt182.2.2.1 bt182.2.2.2.1 bt182.2.2.2.2 true).bind fun t187 => (some (t187 == (Op.bytesLess a0.toList a1.toList)))))) else (some false)) = some r := H
          have A16 := Aside0.mk A160
          clear A160
          by_cases c17 : (t176 == (Op.bytesLess t151.toList t152.toList)) = true
          · rw [if_pos c17] at H
            have c17b0 : (t176 == (Op.bytesLess t151.toList t152.toList)) = true := c17
            (try (have c17b1 : decide (t176 = (Op.bytesLess t151.toList t152.toList)) = true := by simpa using c17))
            (try (have c17b2 : (t176 == (Op.bytesLess t151.toList t152.toList)) = true := by simpa using c17))
            clear c17
            replace H := Option.bind_eq_some_iff.mp H
            obtain ⟨⟨t177, t178, t179, t180, t181⟩, A180, H⟩ := H
            replace H : ((laws_gjString.f kj2 a1).bind fun bt182 => ((impl_GjResultLess.f kj2 t177 t178 t179 t180 t181 bt182.1 bt182.2.1 bt182.2.2.1 bt182.2.2.2.1 bt182.2.2.2.2 true).bind fun t187 => (some (t187 == (Op.bytesLess a0.toList a1.toList))))) = some r := H
            have A18 := Aside0.mk A180
            clear A180
            replace H := Option.bind_eq_some_iff.mp H
            obtain ⟨⟨t182, t183, t184, t185, t186⟩, A190, H⟩ := H
            replace H : ((impl_GjResultLess.f kj2 t177 t178 t179 t180 t181 t182 t183 t184 t185 t186 true).bind fun t187 => (some (t187 == (Op.bytesLess a0.toList a1.toList)))) = some r := H
            have A19 := Aside0.mk A190
            clear A190
            replace H := Option.bind_eq_some_iff.mp H
            obtain ⟨t187, A200, H⟩ := H
            replace H : (some (t187 == (Op.bytesLess a0.toList a1.toList))) = some r := H
            have A20 := Aside0.mk A200
            clear A200
            obtain rfl := Option.some.inj H
            go_wp2_with (first | ((with_reducible refine gate_callee (f := 4) rfl ?_); refine goesL_ (some 15) rfl rfl Try.func4 (by kernel_rfl) rfl #[.string a0] rfl (by (try simp only [List.map_toArray, List.map_cons, List.map_nil]); first | done | rfl | (simp only [List.length_drop, List.length_take]; rfl)) ?_; (with_reducible refine (spec_Small.calls a0 t151 _ A6.out).mono ?_); rintro e w21 ⟨rfl, hb⟩; refine ⟨_, rfl, ?_⟩; have n0_ := Aside0.mk (below_step (by repeat (first | (with_reducible first | exact HB.out | apply below_alloc | apply pw_below_drewN | apply below_drew1) | exact HB.out)) hb); clear HB; have HB := n0_; clear n0_; (try clear hb); (try clear hb2); (try clear hk); (try clear hi)) | ((with_reducible refine gate_callee (f := 4) rfl ?_); refine goesL_ (some 17) rfl rfl Try.func4 (by kernel_rfl) rfl #[.string a1] rfl (by (try simp only [List.map_toArray, List.map_cons, List.map_nil]); first | done | rfl | (simp only [List.length_drop, List.length_take]; rfl)) ?_; (with_reducible refine (spec_Small.calls a1 t152 _ A7.out).mono ?_); rintro e w22 ⟨rfl, hb⟩; refine ⟨_, rfl, ?_⟩; have n0_ := Aside0.mk (below_step (by repeat (first | (with_reducible first | exact HB.out | apply below_alloc | apply pw_below_drewN | apply below_drew1) | exact HB.out)) hb); clear HB; have HB := n0_; clear n0_; (try clear hb); (try clear hb2); (try clear hk); (try clear hi)) | ((with_reducible refine gate_callee (f := 6) rfl ?_); refine goesL_ (some 20) rfl rfl Try.func6 (by kernel_rfl) rfl #[.string a0] rfl (by (try simp only [List.map_toArray, List.map_cons, List.map_nil]); first | done | rfl | (simp only [List.length_drop, List.length_take]; rfl)) ?_; (with_reducible refine (laws_gjString.calls kj2 a0 t153 t154 t155 t156 t157 _ A8.out).mono ?_); rintro e w23 ⟨rfl, hb⟩; refine ⟨_, rfl, ?_⟩; have n0_ := Aside0.mk (below_step (by repeat (first | (with_reducible first | exact HB.out | apply below_alloc | apply pw_below_drewN | apply below_drew1) | exact HB.out)) hb); clear HB; have HB := n0_; clear n0_; (try clear hb); (try clear hb2); (try clear hk); (try clear hi)) | ((with_reducible refine gate_callee (f := 6) rfl ?_); refine goesL_ (some 22) rfl rfl Try.func6 (by kernel_rfl) rfl #[.string a1] rfl (by (try simp only [List.map_toArray, List.map_cons, List.map_nil]); first | done | rfl | (simp only [List.length_drop, List.length_take]; rfl)) ?_; (with_reducible refine (laws_gjString.calls kj2 a1 t158 t159 t160 t161 t162 _ A9.out).mono ?_); rintro e w24 ⟨rfl, hb⟩; refine ⟨_, rfl, ?_⟩; have n0_ := Aside0.mk (below_step (by repeat (first | (with_reducible first | exact HB.out | apply below_alloc | apply pw_below_drewN | apply below_drew1) | exact HB.out)) hb); clear HB; have HB := n0_; clear n0_; (try clear hb); (try clear hb2); (try clear hk); (try clear hi)) | ((with_reducible refine gate_callee (f := 5) rfl ?_); refine goesL_ (some 23) rfl rfl Try.func5 (by kernel_rfl) rfl #[.agg #[.int .i64 t153, .string t154, .string t155, .float .f64 t156, .bool t157], .agg #[.int .i64 t158, .string t159, .string t160, .float .f64 t161, .bool t162], .bool false] rfl (by (try simp only [List.map_toArray, List.map_cons, List.map_nil]); first | done | rfl | (simp only [List.length_drop, List.length_take]; rfl)) ?_; (with_reducible refine (impl_GjResultLess.calls kj2 t153 t154 t155 t156 t157 t158 t159 t160 t161 t162 false t163 _ A10.out).mono ?_); rintro e w25 ⟨rfl, hb⟩; refine ⟨_, rfl, ?_⟩; have n0_ := Aside0.mk (below_step (by repeat (first | (with_reducible first | exact HB.out | apply below_alloc | apply pw_below_drewN | apply below_drew1) | exact HB.out)) hb); clear HB; have HB := n0_; clear n0_; (try clear hb); (try clear hb2); (try clear hk); (try clear hi)) | (go_at_call 4; (with_reducible refine (spec_Small.calls a0 t164 _ A12.out).mono ?_); rintro e w26 ⟨rfl, hb⟩; have n0_ := Aside0.mk (below_step (by repeat (first | (with_reducible first | exact HB.out | apply below_alloc | apply pw_below_drewN | apply below_drew1) | exact HB.out)) hb); clear HB; have HB := n0_; clear n0_; (try clear hb); (try clear hb2); (try clear hk); (try clear hi)) | (go_at_call 6; (with_reducible refine (laws_gjString.calls kj2 t164 t165 t166 t167 t168 t169 _ A13.out).mono ?_); rintro e w27 ⟨rfl, hb⟩; have n0_ := Aside0.mk (below_step (by repeat (first | (with_reducible first | exact HB.out | apply below_alloc | apply pw_below_drewN | apply below_drew1) | exact HB.out)) hb); clear HB; have HB := n0_; clear n0_; (try clear hb); (try clear hb2); (try clear hk); (try clear hi)) | (go_at_call 4; (with_reducible refine (spec_Small.calls a1 t170 _ A14.out).mono ?_); rintro e w28 ⟨rfl, hb⟩; have n0_ := Aside0.mk (below_step (by repeat (first | (with_reducible first | exact HB.out | apply below_alloc | apply pw_below_drewN | apply below_drew1) | exact HB.out)) hb); clear HB; have HB := n0_; clear n0_; (try clear hb); (try clear hb2); (try clear hk); (try clear hi)) | (go_at_call 6; (with_reducible refine (laws_gjString.calls kj2 t170 t171 t172 t173 t174 t175 _ A15.out).mono ?_); rintro e w29 ⟨rfl, hb⟩; have n0_ := Aside0.mk (below_step (by repeat (first | (with_reducible first | exact HB.out | apply below_alloc | apply pw_below_drewN | apply below_drew1) | exact HB.out)) hb); clear HB; have HB := n0_; clear n0_; (try clear hb); (try clear hb2); (try clear hk); (try clear hi)) | (go_at_call 5; (with_reducible refine (impl_GjResultLess.calls kj2 t165 t166 t167 t168 t169 t171 t172 t173 t174 t175 true t176 _ A16.out).mono ?_); rintro e w30 ⟨rfl, hb⟩; have n0_ := Aside0.mk (below_step (by repeat (first | (with_reducible first | exact HB.out | apply below_alloc | apply pw_below_drewN | apply below_drew1) | exact HB.out)) hb); clear HB; have HB := n0_; clear n0_; (try clear hb); (try clear hb2); (try clear hk); (try clear hi)) | (go_at_call 6; (with_reducible refine (laws_gjString.calls kj2 a0 t177 t178 t179 t180 t181 _ A18.out).mono ?_); rintro e w31 ⟨rfl, hb⟩; have n0_ := Aside0.mk (below_step (by repeat (first | (with_reducible first | exact HB.out | apply below_alloc | apply pw_below_drewN | apply below_drew1) | exact HB.out)) hb); clear HB; have HB := n0_; clear n0_; (try clear hb); (try clear hb2); (try clear hk); (try clear hi)) | (go_at_call 6; (with_reducible refine (laws_gjString.calls kj2 a1 t182 t183 t184 t185 t186 _ A19.out).mono ?_); rintro e w32 ⟨rfl, hb⟩; have n0_ := Aside0.mk (below_step (by repeat (first | (with_reducible first | exact HB.out | apply below_alloc | apply pw_below_drewN | apply below_drew1) | exact HB.out)) hb); clear HB; have HB := n0_; clear n0_; (try clear hb); (try clear hb2); (try clear hk); (try clear hi)) | (go_at_call 5; (with_reducible refine (impl_GjResultLess.calls kj2 t177 t178 t179 t180 t181 t182 t183 t184 t185 t186 true t187 _ A20.out).mono ?_); rintro e w33 ⟨rfl, hb⟩; have n0_ := Aside0.mk (below_step (by repeat (first | (with_reducible first | exact HB.out | apply below_alloc | apply pw_below_drewN | apply below_drew1) | exact HB.out)) hb); clear HB; have HB := n0_; clear n0_; (try clear hb); (try clear hb2); (try clear hk); (try clear hi)))
            go_ret
            exact ⟨by first | rfl | (simp [errW_none, errW_some] <;> rfl) | (simp [*, errW_none, errW_some] <;> rfl), by repeat (first | (with_reducible first | exact HB.out | apply below_alloc | apply pw_below_drewN | apply below_drew1) | exact HB.out)⟩
          · rw [if_neg c17] at H
            have c17b0 : (t176 == (Op.bytesLess t151.toList t152.toList)) = false := by simpa using c17
            (try (have c17b1 : decide (t176 = (Op.bytesLess t151.toList t152.toList)) = false := by simpa using c17))
            (try (have c17b2 : (t176 == (Op.bytesLess t151.toList t152.toList)) = false := by simpa using c17))
            (try (have c17b3 : ¬ (t176 = (Op.bytesLess t151.toList t152.toList)) := by simpa using c17))
            clear c17
            obtain rfl := Option.some.inj H
            go_wp2_with (first | ((with_reducible refine gate_callee (f := 4) rfl ?_); refine goesL_ (some 15) rfl rfl Try.func4 (by kernel_rfl) rfl #[.string a0] rfl (by (try simp only [List.map_toArray, List.map_cons, List.map_nil]); first | done | rfl | (simp only [List.length_drop, List.length_take]; rfl)) ?_; (with_reducible refine (spec_Small.calls a0 t151 _ A6.out).mono ?_); rintro e w34 ⟨rfl, hb⟩; refine ⟨_, rfl, ?_⟩; have n0_ := Aside0.mk (below_step (by repeat (first | (with_reducible first | exact HB.out | apply below_alloc | apply pw_below_drewN | apply below_drew1) | exact HB.out)) hb); clear HB; have HB := n0_; clear n0_; (try clear hb); (try clear hb2); (try clear hk); (try clear hi)) | ((with_reducible refine gate_callee (f := 4) rfl ?_); refine goesL_ (some 17) rfl rfl Try.func4 (by kernel_rfl) rfl #[.string a1] rfl (by (try simp only [List.map_toArray, List.map_cons, List.map_nil]); first | done | rfl | (simp only [List.length_drop, List.length_take]; rfl)) ?_; (with_reducible refine (spec_Small.calls a1 t152 _ A7.out).mono ?_); rintro e w35 ⟨rfl, hb⟩; refine ⟨_, rfl, ?_⟩; have n0_ := Aside0.mk (below_step (by repeat (first | (with_reducible first | exact HB.out | apply below_alloc | apply pw_below_drewN | apply below_drew1) | exact HB.out)) hb); clear HB; have HB := n0_; clear n0_; (try clear hb); (try clear hb2); (try clear hk); (try clear hi)) | ((with_reducible refine gate_callee (f := 6) rfl ?_); refine goesL_ (some 20) rfl rfl Try.func6 (by kernel_rfl) rfl #[.string a0] rfl (by (try simp only [List.map_toArray, List.map_cons, List.map_nil]); first | done | rfl | (simp only [List.length_drop, List.length_take]; rfl)) ?_; (with_reducible refine (laws_gjString.calls kj2 a0 t153 t154 t155 t156 t157 _ A8.out).mono ?_); rintro e w36 ⟨rfl, hb⟩; refine ⟨_, rfl, ?_⟩; have n0_ := Aside0.mk (below_step (by repeat (first | (with_reducible first | exact HB.out | apply below_alloc | apply pw_below_drewN | apply below_drew1) | exact HB.out)) hb); clear HB; have HB := n0_; clear n0_; (try clear hb); (try clear hb2); (try clear hk); (try clear hi)) | ((with_reducible refine gate_callee (f := 6) rfl ?_); refine goesL_ (some 22) rfl rfl Try.func6 (by kernel_rfl) rfl #[.string a1] rfl (by (try simp only [List.map_toArray, List.map_cons, List.map_nil]); first | done | rfl | (simp only [List.length_drop, List.length_take]; rfl)) ?_; (with_reducible refine (laws_gjString.calls kj2 a1 t158 t159 t160 t161 t162 _ A9.out).mono ?_); rintro e w37 ⟨rfl, hb⟩; refine ⟨_, rfl, ?_⟩; have n0_ := Aside0.mk (below_step (by repeat (first | (with_reducible first | exact HB.out | apply below_alloc | apply pw_below_drewN | apply below_drew1) | exact HB.out)) hb); clear HB; have HB := n0_; clear n0_; (try clear hb); (try clear hb2); (try clear hk); (try clear hi)) | ((with_reducible refine gate_callee (f := 5) rfl ?_); refine goesL_ (some 23) rfl rfl Try.func5 (by kernel_rfl) rfl #[.agg #[.int .i64 t153, .string t154, .string t155, .float .f64 t156, .bool t157], .agg #[.int .i64 t158, .string t159, .string t160, .float .f64 t161, .bool t162], .bool false] rfl (by (try simp only [List.map_toArray, List.map_cons, List.map_nil]); first | done | rfl | (simp only [List.length_drop, List.length_take]; rfl)) ?_; (with_reducible refine (impl_GjResultLess.calls kj2 t153 t154 t155 t156 t157 t158 t159 t160 t161 t162 false t163 _ A10.out).mono ?_); rintro e w38 ⟨rfl, hb⟩; refine ⟨_, rfl, ?_⟩; have n0_ := Aside0.mk (below_step (by repeat (first | (with_reducible first | exact HB.out | apply below_alloc | apply pw_below_drewN | apply below_drew1) | exact HB.out)) hb); clear HB; have HB := n0_; clear n0_; (try clear hb); (try clear hb2); (try clear hk); (try clear hi)) | (go_at_call 4; (with_reducible refine (spec_Small.calls a0 t164 _ A12.out).mono ?_); rintro e w39 ⟨rfl, hb⟩; have n0_ := Aside0.mk (below_step (by repeat (first | (with_reducible first | exact HB.out | apply below_alloc | apply pw_below_drewN | apply below_drew1) | exact HB.out)) hb); clear HB; have HB := n0_; clear n0_; (try clear hb); (try clear hb2); (try clear hk); (try clear hi)) | (go_at_call 6; (with_reducible refine (laws_gjString.calls kj2 t164 t165 t166 t167 t168 t169 _ A13.out).mono ?_); rintro e w40 ⟨rfl, hb⟩; have n0_ := Aside0.mk (below_step (by repeat (first | (with_reducible first | exact HB.out | apply below_alloc | apply pw_below_drewN | apply below_drew1) | exact HB.out)) hb); clear HB; have HB := n0_; clear n0_; (try clear hb); (try clear hb2); (try clear hk); (try clear hi)) | (go_at_call 4; (with_reducible refine (spec_Small.calls a1 t170 _ A14.out).mono ?_); rintro e w41 ⟨rfl, hb⟩; have n0_ := Aside0.mk (below_step (by repeat (first | (with_reducible first | exact HB.out | apply below_alloc | apply pw_below_drewN | apply below_drew1) | exact HB.out)) hb); clear HB; have HB := n0_; clear n0_; (try clear hb); (try clear hb2); (try clear hk); (try clear hi)) | (go_at_call 6; (with_reducible refine (laws_gjString.calls kj2 t170 t171 t172 t173 t174 t175 _ A15.out).mono ?_); rintro e w42 ⟨rfl, hb⟩; have n0_ := Aside0.mk (below_step (by repeat (first | (with_reducible first | exact HB.out | apply below_alloc | apply pw_below_drewN | apply below_drew1) | exact HB.out)) hb); clear HB; have HB := n0_; clear n0_; (try clear hb); (try clear hb2); (try clear hk); (try clear hi)) | (go_at_call 5; (with_reducible refine (impl_GjResultLess.calls kj2 t165 t166 t167 t168 t169 t171 t172 t173 t174 t175 true t176 _ A16.out).mono ?_); rintro e w43 ⟨rfl, hb⟩; have n0_ := Aside0.mk (below_step (by repeat (first | (with_reducible first | exact HB.out | apply below_alloc | apply pw_below_drewN | apply below_drew1) | exact HB.out)) hb); clear HB; have HB := n0_; clear n0_; (try clear hb); (try clear hb2); (try clear hk); (try clear hi)))
            go_ret
            exact ⟨by first | rfl | (simp [errW_none, errW_some] <;> rfl) | (simp [*, errW_none, errW_some] <;> rfl), by repeat (first | (with_reducible first | exact HB.out | apply below_alloc | apply pw_below_drewN | apply below_drew1) | exact HB.out)⟩
        · rw [if_neg c11] at H
          have c11b0 : (t163 == (Op.bytesLess t151.toList t152.toList)) = false := by simpa using c11
          (try (have c11b1 : decide (t163 = (Op.bytesLess t151.toList t152.toList)) = false := by simpa using c11))
          (try (have c11b2 : (t163 == (Op.bytesLess t151.toList t152.toList)) = false := by simpa using c11))
          (try (have c11b3 : ¬ (t163 = (Op.bytesLess t151.toList t152.toList)) := by simpa using c11))
          clear c11
          obtain rfl := Option.some.inj H
          go_wp2_with (first | ((with_reducible refine gate_callee (f := 4) rfl ?_); refine goesL_ (some 15) rfl rfl Try.func4 (by kernel_rfl) rfl #[.string a0] rfl (by (try simp only [List.map_toArray, List.map_cons, List.map_nil]); first | done | rfl | (simp only [List.length_drop, List.length_take]; rfl)) ?_; (with_reducible refine (spec_Small.calls a0 t151 _ A6.out).mono ?_); rintro e w44 ⟨rfl, hb⟩; refine ⟨_, rfl, ?_⟩; have n0_ := Aside0.mk (below_step (by repeat (first | (with_reducible first | exact HB.out | apply below_alloc | apply pw_below_drewN | apply below_drew1) | exact HB.out)) hb); clear HB; have HB := n0_; clear n0_; (try clear hb); (try clear hb2); (try clear hk); (try clear hi)) | ((with_reducible refine gate_callee (f := 4) rfl ?_); refine goesL_ (some 17) rfl rfl Try.func4 (by kernel_rfl) rfl #[.string a1] rfl (by (try simp only [List.map_toArray, List.map_cons, List.map_nil]); first | done | rfl | (simp only [List.length_drop, List.length_take]; rfl)) ?_; (with_reducible refine (spec_Small.calls a1 t152 _ A7.out).mono ?_); rintro e w45 ⟨rfl, hb⟩; refine ⟨_, rfl, ?_⟩; have n0_ := Aside0.mk (below_step (by repeat (first | (with_reducible first | exact HB.out | apply below_alloc | apply pw_below_drewN | apply below_drew1) | exact HB.out)) hb); clear HB; have HB := n0_; clear n0_; (try clear hb); (try clear hb2); (try clear hk); (try clear hi)) | ((with_reducible refine gate_callee (f := 6) rfl ?_); refine goesL_ (some 20) rfl rfl Try.func6 (by kernel_rfl) rfl #[.string a0] rfl (by (try simp only [List.map_toArray, List.map_cons, List.map_nil]); first | done | rfl | (simp only [List.length_drop, List.length_take]; rfl)) ?_; (with_reducible refine (laws_gjString.calls kj2 a0 t153 t154 t155 t156 t157 _ A8.out).mono ?_); rintro e w46 ⟨rfl, hb⟩; refine ⟨_, rfl, ?_⟩; have n0_ := Aside0.mk (below_step (by repeat (first | (with_reducible first | exact HB.out | apply below_alloc | apply pw_below_drewN | apply below_drew1) | exact HB.out)) hb); clear HB; have HB := n0_; clear n0_; (try clear hb); (try clear hb2); (try clear hk); (try clear hi)) | ((with_reducible refine gate_callee (f := 6) rfl ?_); refine goesL_ (some 22) rfl rfl Try.func6 (by kernel_rfl) rfl #[.string a1] rfl (by (try simp only [List.map_toArray, List.map_cons, List.map_nil]); first | done | rfl | (simp only [List.length_drop, List.length_take]; rfl)) ?_; (with_reducible refine (laws_gjString.calls kj2 a1 t158 t159 t160 t161 t162 _ A9.out).mono ?_); rintro e w47 ⟨rfl, hb⟩; refine ⟨_, rfl, ?_⟩; have n0_ := Aside0.mk (below_step (by repeat (first | (with_reducible first | exact HB.out | apply below_alloc | apply pw_below_drewN | apply below_drew1) | exact HB.out)) hb); clear HB; have HB := n0_; clear n0_; (try clear hb); (try clear hb2); (try clear hk); (try clear hi)) | ((with_reducible refine gate_callee (f := 5) rfl ?_); refine goesL_ (some 23) rfl rfl Try.func5 (by kernel_rfl) rfl #[.agg #[.int .i64 t153, .string t154, .string t155, .float .f64 t156, .bool t157], .agg #[.int .i64 t158, .string t159, .string t160, .float .f64 t161, .bool t162], .bool false] rfl (by (try simp only [List.map_toArray, List.map_cons, List.map_nil]); first | done | rfl | (simp only [List.length_drop, List.length_take]; rfl)) ?_; (with_reducible refine (impl_GjResultLess.calls kj2 t153 t154 t155 t156 t157 t158 t159 t160 t161 t162 false t163 _ A10.out).mono ?_); rintro e w48 ⟨rfl, hb⟩; refine ⟨_, rfl, ?_⟩; have n0_ := Aside0.mk (below_step (by repeat (first | (with_reducible first | exact HB.out | apply below_alloc | apply pw_below_drewN | apply below_drew1) | exact HB.out)) hb); clear HB; have HB := n0_; clear n0_; (try clear hb); (try clear hb2); (try clear hk); (try clear hi)))
          go_ret
          exact ⟨by first | rfl | (simp [errW_none, errW_some] <;> rfl) | (simp [*, errW_none, errW_some] <;> rfl), by repeat (first | (with_reducible first | exact HB.out | apply below_alloc | apply pw_below_drewN | apply below_drew1) | exact HB.out)⟩

/-- THE ONE PURE STATEMENT of laws_FnGjResultLessFold: yours. -/
def laws_FnGjResultLessFold.Pure : Prop := ∀ (a0 : ByteArray) (a1 : ByteArray), a0.size ≤ 140737488351232 → a1.size ≤ 140737488351232 → ∃ k, laws_FnGjResultLessFold.f k a0 a1 = some true
theorem laws_FnGjResultLessFold.walk (P : laws_FnGjResultLessFold.Pure) (a0 : ByteArray) (a1 : ByteArray) (w : World) (w0 : a0.size ≤ 140737488351232) (w1 : a1.size ≤ 140737488351232) :
    Calls Try.prog 3 #[.string a0, .string a1] w fun e w' => e = .returned (.bool true) ∧ Below w.heap.size w w' := by
  obtain ⟨k, h⟩ := P a0 a1 w0 w1
  refine (laws_FnGjResultLessFold.calls k a0 a1 true w h).mono ?_
  rintro e w' ⟨rfl, hd⟩
  exact ⟨rfl, hd⟩

end Go.Proofs.Ytkdpkenhhcgnbaa.PFnGjResultLessFold
