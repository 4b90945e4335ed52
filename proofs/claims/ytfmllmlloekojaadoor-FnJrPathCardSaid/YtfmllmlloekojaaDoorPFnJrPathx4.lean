-- Written for this claim by this session's own program (wip/xprint).
import Derived.Test.YtfmllmlloekojaaDoorPFnJrPathx0
import Derived.Test.YtfmllmlloekojaaDoorPFnJrPathx3
namespace Go.Proofs.YtfmllmlloekojaaDoor.PFnJrPath
open Go.RowKit Go.Proofs.YtfmllmlloekojaaDoorW.PrintWords Go.Proofs.YtfmllmlloekojaaDoorW.PrintLast Go.Proofs.YtfmllmlloekojaaDoorW.PrintMore
open Go.Proofs.YtfmllmlloekojaaDoor.LaidL
variable {E : ErrTab}
attribute [local go_sem] max2_int min2_int max_two min_two max_three min_three max_four min_four   -- for this text's walks alone
set_option linter.unusedVariables false
set_option linter.unusedSimpArgs false

/-! ### impl_JqParsePath: function 15 -/
def impl_JqParsePath.f (k : Nat) (a0 : ByteArray) : Option (List ByteArray × Bool) := (jsonparser_ParsePath.f k a0).bind fun bt138 => (if bt138.2.isNone = true then (some (bt138.1, true)) else (some (bt138.1, false)))
theorem impl_JqParsePath.mono : ∀ a0 k, LeO (impl_JqParsePath.f k a0) (impl_JqParsePath.f (k + 1) a0) := by
  intro a0 k
  unfold impl_JqParsePath.f
  repeat' first
      | (with_reducible exact jsonparser_ParsePath.mono _ _)
      | (with_reducible exact LeO.refl _)
      | (with_reducible exact LeO.none _)
      | (with_reducible refine LeO.ite ?_ ?_)
      | (with_reducible refine LeO.bind ?_ (fun _ => ?_))
      | exact jsonparser_ParsePath.mono _ _
      | exact LeO.none _
      | refine LeO.ite ?_ ?_
      | refine LeO.bind ?_ (fun _ => ?_)
set_option maxHeartbeats 8000000 in
set_option maxRecDepth 100000 in
theorem impl_JqParsePath.calls (k : Nat) (a0 : ByteArray) (r1 : List ByteArray) (r2 : Bool) (w : World) (hL : Laid E w) (h : impl_JqParsePath.f k a0 = some (r1, r2)) :
    Calls Tryd.prog 15 #[.string a0] w fun e w' => ∃ v0_ : Value, e = .returned (.tuple #[v0_, .bool r2]) ∧ Kd.R Kd.string 9 w' w.heap.size (fun _ => True) v0_ r1 ∧ Below w.heap.size w w' := by
  have hu67 := Tryd.underlying67
  have HB := Aside0.mk (Below.refl w.heap.size w)
  have HLD := Aside0.mk hL
  clear hL
  have H : ((jsonparser_ParsePath.f k a0).bind fun bt138 => (if bt138.2.isNone = true then (some (bt138.1, true)) else (some (bt138.1, false)))) = some (r1, r2) := h
  clear h
  replace H := Option.bind_eq_some_iff.mp H
  obtain ⟨⟨t138, t139⟩, A20, H⟩ := H
  replace H : (if t139.isNone = true then (some (t138, true)) else (some (t138, false))) = some (r1, r2) := H
  have A2 := Aside0.mk A20
  clear A20
  rcases t139 with _ | q142
  · have H1 : (some (t138, true)) = some (r1, r2) := by rw [if_pos (show (none : Option Int).isNone = true by rfl)] at H; exact H
    clear H
    have H := H1
    clear H1
    try simp only [errE_none, errE_some]
    simp only [Option.some.injEq, Prod.mk.injEq] at H
    obtain ⟨rfl, rfl⟩ := H
    go_enter Tryd.func15, Tryd.ntmps15
    go_wp2_with (first | (go_at_call 38; (with_reducible refine (jsonparser_ParsePath.calls (E := E) k a0 t138 none _ ?side1 A2.out).mono ?_); (case side1 => exact Laid.below HLD.out (by repeat (first | (with_reducible first | exact HB.out | apply below_alloc | apply pw_below_drewN | apply below_drew1) | exact HB.out))); rintro e w3 ⟨v140, rfl, ho0, hb⟩; have n0_ := Aside0.mk (Kd.R_lower ho0 (below_size (by repeat (first | (with_reducible first | exact HB.out | apply below_alloc | apply pw_below_drewN | apply below_drew1) | exact HB.out)))); have n1_ := Aside0.mk (below_step (by repeat (first | (with_reducible first | exact HB.out | apply below_alloc | apply pw_below_drewN | apply below_drew1) | exact HB.out)) hb); clear HB; have HO141 := n0_; have HB := n1_; clear n0_ n1_; (try clear hb); (try clear hb2); (try clear hk); (try clear hi); (try clear ho0); (try simp only [errE_none, errE_some])))
    repeat (go_quiet (first | (go_at_call 38; (with_reducible refine (jsonparser_ParsePath.calls (E := E) k a0 t138 none _ ?side1 A2.out).mono ?_); (case side1 => exact Laid.below HLD.out (by repeat (first | (with_reducible first | exact HB.out | apply below_alloc | apply pw_below_drewN | apply below_drew1) | exact HB.out))); rintro e w3 ⟨v140, rfl, ho0, hb⟩; have n0_ := Aside0.mk (Kd.R_lower ho0 (below_size (by repeat (first | (with_reducible first | exact HB.out | apply below_alloc | apply pw_below_drewN | apply below_drew1) | exact HB.out)))); have n1_ := Aside0.mk (below_step (by repeat (first | (with_reducible first | exact HB.out | apply below_alloc | apply pw_below_drewN | apply below_drew1) | exact HB.out)) hb); clear HB; have HO141 := n0_; have HB := n1_; clear n0_ n1_; (try clear hb); (try clear hb2); (try clear hk); (try clear hi); (try clear ho0); (try simp only [errE_none, errE_some]))); try go_wp2_with (first | (go_at_call 38; (with_reducible refine (jsonparser_ParsePath.calls (E := E) k a0 t138 none _ ?side1 A2.out).mono ?_); (case side1 => exact Laid.below HLD.out (by repeat (first | (with_reducible first | exact HB.out | apply below_alloc | apply pw_below_drewN | apply below_drew1) | exact HB.out))); rintro e w3 ⟨v140, rfl, ho0, hb⟩; have n0_ := Aside0.mk (Kd.R_lower ho0 (below_size (by repeat (first | (with_reducible first | exact HB.out | apply below_alloc | apply pw_below_drewN | apply below_drew1) | exact HB.out)))); have n1_ := Aside0.mk (below_step (by repeat (first | (with_reducible first | exact HB.out | apply below_alloc | apply pw_below_drewN | apply below_drew1) | exact HB.out)) hb); clear HB; have HO141 := n0_; have HB := n1_; clear n0_ n1_; (try clear hb); (try clear hb2); (try clear hk); (try clear hi); (try clear ho0); (try simp only [errE_none, errE_some]))))
    go_ret2
    exact ⟨_, by first | rfl | (simp [errE_none, errE_some] <;> rfl) | (simp [*, errE_none, errE_some] <;> rfl), by (with_reducible repeat (first | apply Kd.R_alloc | apply Kd.R_drewN | apply Kd.R_drew)); exact HO141.out, by repeat (first | (with_reducible first | exact HB.out | apply below_alloc | apply pw_below_drewN | apply below_drew1) | exact HB.out)⟩
  · have H1 : (some (t138, false)) = some (r1, r2) := by rw [if_neg (show ¬ (some q142).isNone = true by simp)] at H; exact H
    clear H
    have H := H1
    clear H1
    try simp only [errE_none, errE_some]
    simp only [Option.some.injEq, Prod.mk.injEq] at H
    obtain ⟨rfl, rfl⟩ := H
    go_enter Tryd.func15, Tryd.ntmps15
    go_wp2_with (first | (go_at_call 38; (with_reducible refine (jsonparser_ParsePath.calls (E := E) k a0 t138 (some q142) _ ?side1 A2.out).mono ?_); (case side1 => exact Laid.below HLD.out (by repeat (first | (with_reducible first | exact HB.out | apply below_alloc | apply pw_below_drewN | apply below_drew1) | exact HB.out))); rintro e w4 ⟨v140, rfl, ho0, hb⟩; have n0_ := Aside0.mk (Kd.R_lower ho0 (below_size (by repeat (first | (with_reducible first | exact HB.out | apply below_alloc | apply pw_below_drewN | apply below_drew1) | exact HB.out)))); have n1_ := Aside0.mk (below_step (by repeat (first | (with_reducible first | exact HB.out | apply below_alloc | apply pw_below_drewN | apply below_drew1) | exact HB.out)) hb); clear HB; have HO141 := n0_; have HB := n1_; clear n0_ n1_; (try clear hb); (try clear hb2); (try clear hk); (try clear hi); (try clear ho0); (try simp only [errE_none, errE_some])))
    repeat (go_quiet (first | (go_at_call 38; (with_reducible refine (jsonparser_ParsePath.calls (E := E) k a0 t138 (some q142) _ ?side1 A2.out).mono ?_); (case side1 => exact Laid.below HLD.out (by repeat (first | (with_reducible first | exact HB.out | apply below_alloc | apply pw_below_drewN | apply below_drew1) | exact HB.out))); rintro e w4 ⟨v140, rfl, ho0, hb⟩; have n0_ := Aside0.mk (Kd.R_lower ho0 (below_size (by repeat (first | (with_reducible first | exact HB.out | apply below_alloc | apply pw_below_drewN | apply below_drew1) | exact HB.out)))); have n1_ := Aside0.mk (below_step (by repeat (first | (with_reducible first | exact HB.out | apply below_alloc | apply pw_below_drewN | apply below_drew1) | exact HB.out)) hb); clear HB; have HO141 := n0_; have HB := n1_; clear n0_ n1_; (try clear hb); (try clear hb2); (try clear hk); (try clear hi); (try clear ho0); (try simp only [errE_none, errE_some]))); try go_wp2_with (first | (go_at_call 38; (with_reducible refine (jsonparser_ParsePath.calls (E := E) k a0 t138 (some q142) _ ?side1 A2.out).mono ?_); (case side1 => exact Laid.below HLD.out (by repeat (first | (with_reducible first | exact HB.out | apply below_alloc | apply pw_below_drewN | apply below_drew1) | exact HB.out))); rintro e w4 ⟨v140, rfl, ho0, hb⟩; have n0_ := Aside0.mk (Kd.R_lower ho0 (below_size (by repeat (first | (with_reducible first | exact HB.out | apply below_alloc | apply pw_below_drewN | apply below_drew1) | exact HB.out)))); have n1_ := Aside0.mk (below_step (by repeat (first | (with_reducible first | exact HB.out | apply below_alloc | apply pw_below_drewN | apply below_drew1) | exact HB.out)) hb); clear HB; have HO141 := n0_; have HB := n1_; clear n0_ n1_; (try clear hb); (try clear hb2); (try clear hk); (try clear hi); (try clear ho0); (try simp only [errE_none, errE_some]))))
    go_ret2
    exact ⟨_, by first | rfl | (simp [errE_none, errE_some] <;> rfl) | (simp [*, errE_none, errE_some] <;> rfl), by (with_reducible repeat (first | apply Kd.R_alloc | apply Kd.R_drewN | apply Kd.R_drew)); exact HO141.out, by repeat (first | (with_reducible first | exact HB.out | apply below_alloc | apply pw_below_drewN | apply below_drew1) | exact HB.out)⟩

/-! ### impl_JrPath: function 16 -/
def impl_JrPath.f (k : Nat) (a0 : ByteArray) : Option (Int) := (jsonparser_ParsePath.f k a0).bind fun bt143 => ((impl_jrKind.f bt143.2).bind fun t147 => (some t147))
theorem impl_JrPath.mono : ∀ a0 k, LeO (impl_JrPath.f k a0) (impl_JrPath.f (k + 1) a0) := by
  intro a0 k
  unfold impl_JrPath.f
  repeat' first
      | (with_reducible exact jsonparser_ParsePath.mono _ _)
      | (with_reducible exact LeO.refl _)
      | (with_reducible exact LeO.none _)
      | (with_reducible refine LeO.ite ?_ ?_)
      | (with_reducible refine LeO.bind ?_ (fun _ => ?_))
      | exact jsonparser_ParsePath.mono _ _
      | exact LeO.none _
      | refine LeO.ite ?_ ?_
      | refine LeO.bind ?_ (fun _ => ?_)
set_option maxHeartbeats 8000000 in
set_option maxRecDepth 100000 in
theorem impl_JrPath.calls (k : Nat) (a0 : ByteArray) (r : Int) (w : World) (hL : Laid E w) (h : impl_JrPath.f k a0 = some r) :
    Calls Tryd.prog 16 #[.string a0] w fun e w' => e = .returned (.int .i64 r) ∧ Below w.heap.size w w' := by
  have HB := Aside0.mk (Below.refl w.heap.size w)
  have HLD := Aside0.mk hL
  clear hL
  have H : ((jsonparser_ParsePath.f k a0).bind fun bt143 => ((impl_jrKind.f bt143.2).bind fun t147 => (some t147))) = some r := h
  clear h
  replace H := Option.bind_eq_some_iff.mp H
  obtain ⟨⟨t143, t144⟩, A20, H⟩ := H
  replace H : ((impl_jrKind.f t144).bind fun t147 => (some t147)) = some r := H
  have A2 := Aside0.mk A20
  clear A20
  replace H := Option.bind_eq_some_iff.mp H
  obtain ⟨t147, A30, H⟩ := H
  replace H : (some t147) = some r := H
  have A3 := Aside0.mk A30
  clear A30
  obtain rfl := Option.some.inj H
  go_enter Tryd.func16, Tryd.ntmps16
  go_wp2_with (first | ((with_reducible refine gate_callee (f := 38) rfl ?_); refine goesL_ (some 7) rfl rfl Tryd.func38 (by kernel_rfl) rfl #[.string a0] rfl (by (try simp only [List.map_toArray, List.map_cons, List.map_nil]); first | done | rfl | (simp only [List.length_drop, List.length_take]; rfl)) ?_; (with_reducible refine (jsonparser_ParsePath.calls (E := E) k a0 t143 t144 _ ?side1 A2.out).mono ?_); (case side1 => exact Laid.below HLD.out (by repeat (first | (with_reducible first | exact HB.out | apply below_alloc | apply pw_below_drewN | apply below_drew1) | exact HB.out))); rintro e w4 ⟨v145, rfl, ho0, hb⟩; refine ⟨_, rfl, ?_⟩; have n0_ := Aside0.mk (Kd.R_lower ho0 (below_size (by repeat (first | (with_reducible first | exact HB.out | apply below_alloc | apply pw_below_drewN | apply below_drew1) | exact HB.out)))); have n1_ := Aside0.mk (below_step (by repeat (first | (with_reducible first | exact HB.out | apply below_alloc | apply pw_below_drewN | apply below_drew1) | exact HB.out)) hb); clear HB; have HO146 := n0_; have HB := n1_; clear n0_ n1_; (try clear hb); (try clear hb2); (try clear hk); (try clear hi); (try clear ho0); (try simp only [errE_none, errE_some]); have CA3 := fun W (hLW : Laid E W) => impl_jrKind.calls t144 t147 W hLW A3.out; try simp only [errE_none, errE_some] at CA3) | (go_at_call 39; (with_reducible refine (CA3 _  ?side1).mono ?_); (case side1 => exact Laid.below HLD.out (by repeat (first | (with_reducible first | exact HB.out | apply below_alloc | apply pw_below_drewN | apply below_drew1) | exact HB.out))); rintro e w5 ⟨rfl, hb⟩; have n0_ := Aside0.mk (Kd.R_below (by (with_reducible repeat (first | apply Kd.R_alloc | apply Kd.R_drewN | apply Kd.R_drew)); exact HO146.out) hb); have n1_ := Aside0.mk (below_step (by repeat (first | (with_reducible first | exact HB.out | apply below_alloc | apply pw_below_drewN | apply below_drew1) | exact HB.out)) hb); clear HO146; clear HB; have HO146 := n0_; have HB := n1_; clear n0_ n1_; (try clear hb); (try clear hb2); (try clear hk); (try clear hi)))
  go_ret
  exact ⟨by first | rfl | (simp [errE_none, errE_some] <;> rfl) | (simp [*, errE_none, errE_some] <;> rfl), by repeat (first | (with_reducible first | exact HB.out | apply below_alloc | apply pw_below_drewN | apply below_drew1) | exact HB.out)⟩

/-! ### laws_FnJrPath: function 5 -/
def laws_FnJrPath.f (k : Nat) (a0 : ByteArray) : Option (Bool) := if (a0.size : Int) > 2147483647 then (some true) else (if (a0.size : Int) > 1000 then (some true) else ((impl_JqParsePath.f k a0).bind fun bt148 => ((impl_JrPath.f k a0).bind fun t152 => (if ((t152 == 0) == bt148.2) = true then ((impl_JrPath.f k (⟨#[]⟩ : ByteArray)).bind fun t153 => (some (t153 == 11))) else (some false)))))
theorem laws_FnJrPath.mono : ∀ a0 k, LeO (laws_FnJrPath.f k a0) (laws_FnJrPath.f (k + 1) a0) := by
  intro a0 k
  unfold laws_FnJrPath.f
  repeat' first
      | (with_reducible exact impl_JqParsePath.mono _ _)
      | (with_reducible exact impl_JrPath.mono _ _)
      | (with_reducible exact LeO.refl _)
      | (with_reducible exact LeO.none _)
      | (with_reducible refine LeO.ite ?_ ?_)
      | (with_reducible refine LeO.bind ?_ (fun _ => ?_))
      | exact impl_JqParsePath.mono _ _
      | exact impl_JrPath.mono _ _
      | exact LeO.none _
      | refine LeO.ite ?_ ?_
      | refine LeO.bind ?_ (fun _ => ?_)
set_option maxHeartbeats 8000000 in
set_option maxRecDepth 100000 in
theorem laws_FnJrPath.calls (k : Nat) (a0 : ByteArray) (r : Bool) (w : World) (hL : Laid E w) (h : laws_FnJrPath.f k a0 = some r) :
    Calls Tryd.prog 5 #[.string a0] w fun e w' => e = .returned (.bool r) ∧ Below w.heap.size w w' := by
  have HB := Aside0.mk (Below.refl w.heap.size w)
  have HLD := Aside0.mk hL
  clear hL
  have H : (if (a0.size : Int) > 2147483647 then (some true) else (if (a0.size : Int) > 1000 then (some true) else ((impl_JqParsePath.f k a0).bind fun bt148 => ((impl_JrPath.f k a0).bind fun t152 => (if ((t152 == 0) == bt148.2) = true then ((impl_JrPath.f k (⟨#[]⟩ : ByteArray)).bind fun t153 => (some (t153 == 11))) else (some false)))))) = some r := h
  clear h
  by_cases c2 : (a0.size : Int) > 2147483647
  · rw [if_pos c2] at H
    have c2b0 : decide (2147483647 < (a0.size : Int)) = true := decide_eq_true c2
    have c2b1 : decide (2147483647 < a0.size) = true := decide_eq_true (by omega)
    clear c2
    obtain rfl := Option.some.inj H
    go_enter Tryd.func5, Tryd.ntmps5
    go_wp2
    go_ret
    exact ⟨by first | rfl | (simp [errE_none, errE_some] <;> rfl) | (simp [*, errE_none, errE_some] <;> rfl), by repeat (first | (with_reducible first | exact HB.out | apply below_alloc | apply pw_below_drewN | apply below_drew1) | exact HB.out)⟩
  · rw [if_neg c2] at H
    have c2b0 : decide (2147483647 < (a0.size : Int)) = false := decide_eq_false c2
    have c2b1 : decide (2147483647 < a0.size) = false := decide_eq_false (by omega)
    clear c2
    by_cases c3 : (a0.size : Int) > 1000
    · rw [if_pos c3] at H
      have c3b0 : decide (1000 < (a0.size : Int)) = true := decide_eq_true c3
      have c3b1 : decide (1000 < a0.size) = true := decide_eq_true (by omega)
      clear c3
      obtain rfl := Option.some.inj H
      go_enter Tryd.func5, Tryd.ntmps5
      go_wp2
      go_ret
      exact ⟨by first | rfl | (simp [errE_none, errE_some] <;> rfl) | (simp [*, errE_none, errE_some] <;> rfl), by repeat (first | (with_reducible first | exact HB.out | apply below_alloc | apply pw_below_drewN | apply below_drew1) | exact HB.out)⟩
    · rw [if_neg c3] at H
      have c3b0 : decide (1000 < (a0.size : Int)) = false := decide_eq_false c3
      have c3b1 : decide (1000 < a0.size) = false := decide_eq_false (by omega)
      clear c3
      replace H := Option.bind_eq_some_iff.mp H
      obtain ⟨⟨t148, t149⟩, A40, H⟩ := H
      replace H : ((impl_JrPath.f k a0).bind fun t152 => (if ((t152 == 0) == t149) = true then ((impl_JrPath.f k (⟨#[]⟩ : ByteArray)).bind fun t153 => (some (t153 == 11))) else (some false))) = some r := H
      have A4 := Aside0.mk A40
      clear A40
      replace H := Option.bind_eq_some_iff.mp H
      obtain ⟨t152, A50, H⟩ := H
      replace H : (if ((t152 == 0) == t149) = true then ((impl_JrPath.f k (⟨#[]⟩ : ByteArray)).bind fun t153 => (some (t153 == 11))) else (some false)) = some r := H
      have A5 := Aside0.mk A50
      clear A50
      by_cases c6 : ((t152 == 0) == t149) = true
      · rw [if_pos c6] at H
        have c6b0 : ((t152 == 0) == t149) = true := c6
        (try (have c6b1 : decide ((t152 == 0) = t149) = true := by simpa using c6))
        (try (have c6b2 : ((t152 == 0) == t149) = true := by simpa using c6))
        clear c6
        replace H := Option.bind_eq_some_iff.mp H
        obtain ⟨t153, A70, H⟩ := H
        replace H : (some (t153 == 11)) = some r := H
        have A7 := Aside0.mk A70
        clear A70
        obtain rfl := Option.some.inj H
        go_enter Tryd.func5, Tryd.ntmps5
        go_wp2_with (first | ((with_reducible refine gate_callee (f := 15) rfl ?_); refine goesL_ (some 13) rfl rfl Tryd.func15 (by kernel_rfl) rfl #[.string a0] rfl (by (try simp only [List.map_toArray, List.map_cons, List.map_nil]); first | done | rfl | (simp only [List.length_drop, List.length_take]; rfl)) ?_; (with_reducible refine (impl_JqParsePath.calls (E := E) k a0 t148 t149 _ ?side1 A4.out).mono ?_); (case side1 => exact Laid.below HLD.out (by repeat (first | (with_reducible first | exact HB.out | apply below_alloc | apply pw_below_drewN | apply below_drew1) | exact HB.out))); rintro e w8 ⟨v150, rfl, ho0, hb⟩; refine ⟨_, rfl, ?_⟩; have n0_ := Aside0.mk (Kd.R_lower ho0 (below_size (by repeat (first | (with_reducible first | exact HB.out | apply below_alloc | apply pw_below_drewN | apply below_drew1) | exact HB.out)))); have n1_ := Aside0.mk (below_step (by repeat (first | (with_reducible first | exact HB.out | apply below_alloc | apply pw_below_drewN | apply below_drew1) | exact HB.out)) hb); clear HB; have HO151 := n0_; have HB := n1_; clear n0_ n1_; (try clear hb); (try clear hb2); (try clear hk); (try clear hi); (try clear ho0)) | ((with_reducible refine gate_callee (f := 16) rfl ?_); refine goesL_ (some 17) rfl rfl Tryd.func16 (by kernel_rfl) rfl #[.string a0] rfl (by (try simp only [List.map_toArray, List.map_cons, List.map_nil]); first | done | rfl | (simp only [List.length_drop, List.length_take]; rfl)) ?_; (with_reducible refine (impl_JrPath.calls (E := E) k a0 t152 _ ?side1 A5.out).mono ?_); (case side1 => exact Laid.below HLD.out (by repeat (first | (with_reducible first | exact HB.out | apply below_alloc | apply pw_below_drewN | apply below_drew1) | exact HB.out))); rintro e w9 ⟨rfl, hb⟩; refine ⟨_, rfl, ?_⟩; have n0_ := Aside0.mk (Kd.R_below (by (with_reducible repeat (first | apply Kd.R_alloc | apply Kd.R_drewN | apply Kd.R_drew)); exact HO151.out) hb); have n1_ := Aside0.mk (below_step (by repeat (first | (with_reducible first | exact HB.out | apply below_alloc | apply pw_below_drewN | apply below_drew1) | exact HB.out)) hb); clear HO151; clear HB; have HO151 := n0_; have HB := n1_; clear n0_ n1_; (try clear hb); (try clear hb2); (try clear hk); (try clear hi)) | (go_at_call 16; (with_reducible refine (impl_JrPath.calls (E := E) k (⟨#[]⟩ : ByteArray) t153 _ ?side1 A7.out).mono ?_); (case side1 => exact Laid.below HLD.out (by repeat (first | (with_reducible first | exact HB.out | apply below_alloc | apply pw_below_drewN | apply below_drew1) | exact HB.out))); rintro e w10 ⟨rfl, hb⟩; have n0_ := Aside0.mk (Kd.R_below (by (with_reducible repeat (first | apply Kd.R_alloc | apply Kd.R_drewN | apply Kd.R_drew)); exact HO151.out) hb); have n1_ := Aside0.mk (below_step (by repeat (first | (with_reducible first | exact HB.out | apply below_alloc | apply pw_below_drewN | apply below_drew1) | exact HB.out)) hb); clear HO151; clear HB; have HO151 := n0_; have HB := n1_; clear n0_ n1_; (try clear hb); (try clear hb2); (try clear hk); (try clear hi)))
        go_ret
        exact ⟨by first | rfl | (simp [errE_none, errE_some] <;> rfl) | (simp [*, errE_none, errE_some] <;> rfl), by repeat (first | (with_reducible first | exact HB.out | apply below_alloc | apply pw_below_drewN | apply below_drew1) | exact HB.out)⟩
      · rw [if_neg c6] at H
        have c6b0 : ((t152 == 0) == t149) = false := by simpa using c6
        (try (have c6b1 : decide ((t152 == 0) = t149) = false := by simpa using c6))
        (try (have c6b2 : ((t152 == 0) == t149) = false := by simpa using c6))
        (try (have c6b3 : ¬ ((t152 == 0) = t149) := by simpa using c6))
        clear c6
        obtain rfl := Option.some.inj H
        go_enter Tryd.func5, Tryd.ntmps5
        go_wp2_with (first | ((with_reducible refine gate_callee (f := 15) rfl ?_); refine goesL_ (some 13) rfl rfl Tryd.func15 (by kernel_rfl) rfl #[.string a0] rfl (by (try simp only [List.map_toArray, List.map_cons, List.map_nil]); first | done | rfl | (simp only [List.length_drop, List.length_take]; rfl)) ?_; (with_reducible refine (impl_JqParsePath.calls (E := E) k a0 t148 t149 _ ?side1 A4.out).mono ?_); (case side1 => exact Laid.below HLD.out (by repeat (first | (with_reducible first | exact HB.out | apply below_alloc | apply pw_below_drewN | apply below_drew1) | exact HB.out))); rintro e w11 ⟨v150, rfl, ho0, hb⟩; refine ⟨_, rfl, ?_⟩; have n0_ := Aside0.mk (Kd.R_lower ho0 (below_size (by repeat (first | (with_reducible first | exact HB.out | apply below_alloc | apply pw_below_drewN | apply below_drew1) | exact HB.out)))); have n1_ := Aside0.mk (below_step (by repeat (first | (with_reducible first | exact HB.out | apply below_alloc | apply pw_below_drewN | apply below_drew1) | exact HB.out)) hb); clear HB; have HO151 := n0_; have HB := n1_; clear n0_ n1_; (try clear hb); (try clear hb2); (try clear hk); (try clear hi); (try clear ho0)) | ((with_reducible refine gate_callee (f := 16) rfl ?_); refine goesL_ (some 17) rfl rfl Tryd.func16 (by kernel_rfl) rfl #[.string a0] rfl (by (try simp only [List.map_toArray, List.map_cons, List.map_nil]); first | done | rfl | (simp only [List.length_drop, List.length_take]; rfl)) ?_; (with_reducible refine (impl_JrPath.calls (E := E) k a0 t152 _ ?side1 A5.out).mono ?_); (case side1 => exact Laid.below HLD.out (by repeat (first | (with_reducible first | exact HB.out | apply below_alloc | apply pw_below_drewN | apply below_drew1) | exact HB.out))); rintro e w12 ⟨rfl, hb⟩; refine ⟨_, rfl, ?_⟩; have n0_ := Aside0.mk (Kd.R_below (by (with_reducible repeat (first | apply Kd.R_alloc | apply Kd.R_drewN | apply Kd.R_drew)); exact HO151.out) hb); have n1_ := Aside0.mk (below_step (by repeat (first | (with_reducible first | exact HB.out | apply below_alloc | apply pw_below_drewN | apply below_drew1) | exact HB.out)) hb); clear HO151; clear HB; have HO151 := n0_; have HB := n1_; clear n0_ n1_; (try clear hb); (try clear hb2); (try clear hk); (try clear hi)))
        go_ret
        exact ⟨by first | rfl | (simp [errE_none, errE_some] <;> rfl) | (simp [*, errE_none, errE_some] <;> rfl), by repeat (first | (with_reducible first | exact HB.out | apply below_alloc | apply pw_below_drewN | apply below_drew1) | exact HB.out)⟩

/-- THE ONE PURE STATEMENT of laws_FnJrPath: yours. -/
def laws_FnJrPath.Pure : Prop := ∀ (a0 : ByteArray), a0.size ≤ 140737488351232 → ∃ k, laws_FnJrPath.f k a0 = some true
theorem laws_FnJrPath.walk (P : laws_FnJrPath.Pure) (a0 : ByteArray) (w : World) (hL : Laid E w) (w0 : a0.size ≤ 140737488351232) :
    Calls Tryd.prog 5 #[.string a0] w fun e w' => e = .returned (.bool true) ∧ Below w.heap.size w w' := by
  obtain ⟨k, h⟩ := P a0 w0
  refine (laws_FnJrPath.calls (E := E) k a0 true w hL h).mono ?_
  rintro e w' ⟨rfl, hd⟩
  exact ⟨rfl, hd⟩

end Go.Proofs.YtfmllmlloekojaaDoor.PFnJrPath
