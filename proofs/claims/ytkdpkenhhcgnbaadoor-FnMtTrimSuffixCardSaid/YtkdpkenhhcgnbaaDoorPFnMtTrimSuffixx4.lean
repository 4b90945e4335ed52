-- Written for this claim by this session's own program (wip/xprint).
import Derived.Test.YtkdpkenhhcgnbaaDoorPFnMtTrimSuffixx0
import Derived.Test.YtkdpkenhhcgnbaaDoorPFnMtTrimSuffixx1
import Derived.Test.YtkdpkenhhcgnbaaDoorPFnMtTrimSuffixx2
import Derived.Test.YtkdpkenhhcgnbaaDoorPFnMtTrimSuffixx3
namespace Go.Proofs.YtkdpkenhhcgnbaaDoor.PFnMtTrimSuffix
open Go.RowKit Go.Proofs.YtkdpkenhhcgnbaaDoorW.PrintWords Go.Proofs.YtkdpkenhhcgnbaaDoorW.PrintLast Go.Proofs.YtkdpkenhhcgnbaaDoorW.PrintMore
attribute [local go_sem] max2_int min2_int max_two min_two max_three min_three max_four min_four   -- for this text's walks alone
set_option linter.unusedVariables false
set_option linter.unusedSimpArgs false

/-! ### spec_Matches: function 16 -/
def spec_Matches.f (k : Nat) (a0 : ByteArray) (a1 : ByteArray) : Option (Bool × Bool) := (spec_Characters.f k a0).bind fun bt146 => ((spec_Globs.f k a1).bind fun bt150 => (if bt146.2 = true then (if bt150.2 = true then ((spec_Fits.f k bt146.1 bt150.1).bind fun t154 => (some (t154, true))) else (some (false, false))) else (some (false, false))))
theorem spec_Matches.mono : ∀ a0 a1 k, LeO (spec_Matches.f k a0 a1) (spec_Matches.f (k + 1) a0 a1) := by
  intro a0 a1 k
  unfold spec_Matches.f
  repeat' first
      | (with_reducible exact spec_Characters.mono _ _)
      | (with_reducible exact spec_Fits.mono _ _ _)
      | (with_reducible exact spec_Globs.mono _ _)
      | (with_reducible exact LeO.refl _)
      | (with_reducible exact LeO.none _)
      | (with_reducible refine LeO.ite ?_ ?_)
      | (with_reducible refine LeO.bind ?_ (fun _ => ?_))
      | exact spec_Characters.mono _ _
      | exact spec_Fits.mono _ _ _
      | exact spec_Globs.mono _ _
      | exact LeO.none _
      | refine LeO.ite ?_ ?_
      | refine LeO.bind ?_ (fun _ => ?_)
set_option maxHeartbeats 8000000 in
set_option maxRecDepth 100000 in
theorem spec_Matches.calls (k : Nat) (a0 : ByteArray) (a1 : ByteArray) (r1 : Bool) (r2 : Bool) (w : World) (h : spec_Matches.f k a0 a1 = some (r1, r2)) :
    Calls Tryd.prog 16 #[.string a0, .string a1] w fun e w' => e = .returned (.tuple #[.bool r1, .bool r2]) ∧ Below w.heap.size w w' := by
  have HB := Aside0.mk (Below.refl w.heap.size w)
  have H : ((spec_Characters.f k a0).bind fun bt146 => ((spec_Globs.f k a1).bind fun bt150 => (if bt146.2 = true then (if bt150.2 = true then ((spec_Fits.f k bt146.1 bt150.1).bind fun t154 => (some (t154, true))) else (some (false, false))) else (some (false, false))))) = some (r1, r2) := h
  clear h
  replace H := Option.bind_eq_some_iff.mp H
  obtain ⟨⟨t146, t147⟩, A30, H⟩ := H
  replace H : ((spec_Globs.f k a1).bind fun bt150 => (if t147 = true then (if bt150.2 = true then ((spec_Fits.f k t146 bt150.1).bind fun t154 => (some (t154, true))) else (some (false, false))) else (some (false, false)))) = some (r1, r2) := H
  have A3 := Aside0.mk A30
  clear A30
  replace H := Option.bind_eq_some_iff.mp H
  obtain ⟨⟨t150, t151⟩, A40, H⟩ := H
  replace H : (if t147 = true then (if t151 = true then ((spec_Fits.f k t146 t150).bind fun t154 => (some (t154, true))) else (some (false, false))) else (some (false, false))) = some (r1, r2) := H
  have A4 := Aside0.mk A40
  clear A40
  by_cases c5 : t147 = true
  · subst c5
    have H1 : (if t151 = true then ((spec_Fits.f k t146 t150).bind fun t154 => (some (t154, true))) else (some (false, false))) = some (r1, r2) := by rw [if_pos rfl] at H; exact H
    clear H
    have H := H1
    clear H1
    by_cases c6 : t151 = true
    · subst c6
      have H1 : ((spec_Fits.f k t146 t150).bind fun t154 => (some (t154, true))) = some (r1, r2) := by rw [if_pos rfl] at H; exact H
      clear H
      have H := H1
      clear H1
      replace H := Option.bind_eq_some_iff.mp H
      obtain ⟨t154, A70, H⟩ := H
      replace H : (some (t154, true)) = some (r1, r2) := H
      have A7 := Aside0.mk A70
      clear A70
      simp only [Option.some.injEq, Prod.mk.injEq] at H
      obtain ⟨rfl, rfl⟩ := H
      go_enter Tryd.func16, Tryd.ntmps16
      go_wp2_with (first | ((with_reducible refine gate_callee (f := 34) rfl ?_); refine goesL_ (some 12) rfl rfl Tryd.func34 (by kernel_rfl) rfl #[.string a0] rfl (by (try simp only [List.map_toArray, List.map_cons, List.map_nil]); first | done | rfl | (simp only [List.length_drop, List.length_take]; rfl)) ?_; (with_reducible refine (spec_Characters.calls k a0 t146 true _ A3.out).mono ?_); rintro e w8 ⟨v148, rfl, ho0, hb⟩; refine ⟨_, rfl, ?_⟩; have n0_ := Aside0.mk (Kd.R_lower ho0 (below_size (by repeat (first | (with_reducible first | exact HB.out | apply below_alloc | apply pw_below_drewN | apply below_drew1) | exact HB.out)))); have n1_ := Aside0.mk (below_step (by repeat (first | (with_reducible first | exact HB.out | apply below_alloc | apply pw_below_drewN | apply below_drew1) | exact HB.out)) hb); clear HB; have HO149 := n0_; have HB := n1_; clear n0_ n1_; (try clear hb); (try clear hb2); (try clear hk); (try clear hi); (try clear ho0)) | ((with_reducible refine gate_callee (f := 35) rfl ?_); refine goesL_ (some 17) rfl rfl Tryd.func35 (by kernel_rfl) rfl #[.string a1] rfl (by (try simp only [List.map_toArray, List.map_cons, List.map_nil]); first | done | rfl | (simp only [List.length_drop, List.length_take]; rfl)) ?_; (with_reducible refine (spec_Globs.calls k a1 t150 true _ A4.out).mono ?_); rintro e w9 ⟨v152, rfl, ho0, hb⟩; refine ⟨_, rfl, ?_⟩; have n0_ := Aside0.mk (Kd.R_below (by (with_reducible repeat (first | apply Kd.R_alloc | apply Kd.R_drewN | apply Kd.R_drew)); exact HO149.out) hb); have n1_ := Aside0.mk (Kd.R_lower ho0 (below_size (by repeat (first | (with_reducible first | exact HB.out | apply below_alloc | apply pw_below_drewN | apply below_drew1) | exact HB.out)))); have n2_ := Aside0.mk (below_step (by repeat (first | (with_reducible first | exact HB.out | apply below_alloc | apply pw_below_drewN | apply below_drew1) | exact HB.out)) hb); clear HO149; clear HB; have HO149 := n0_; have HO153 := n1_; have HB := n2_; clear n0_ n1_ n2_; (try clear hb); (try clear hb2); (try clear hk); (try clear hi); (try clear ho0); obtain ⟨Ao10, co10, eo10⟩ := Kd.R_slice HO149.out; subst eo10; obtain ⟨Ao11, co11, eo11⟩ := Kd.R_slice HO153.out; subst eo11) | ((with_reducible refine gate_callee (f := 36) rfl ?_); refine goesL_ (some 28) rfl rfl Tryd.func36 (by kernel_rfl) rfl #[.slice Ao10 t146.length co10, .slice Ao11 t150.length co11] rfl (by (try simp only [List.map_toArray, List.map_cons, List.map_nil]); first | done | rfl | (simp only [List.length_drop, List.length_take]; rfl)) ?_; (with_reducible refine (spec_Fits.calls k _ _ t146 _ _ t150 t154 _ ?side1 ?side2 ?side3 ?side4 A7.out).mono ?_); (case side1 => repeat (first | exact (Kd.R_reads' HO149.out).2.2 | (with_reducible refine Kd.C_alloc ?_ _) | (with_reducible refine Kd.C_drewN ?_ _) | (with_reducible refine Kd.C_drew ?_))); (case side2 => exact (Kd.R_reads' HO149.out).2.1); (case side3 => repeat (first | exact (Kd.R_reads' HO153.out).2.2 | (with_reducible refine Kd.C_alloc ?_ _) | (with_reducible refine Kd.C_drewN ?_ _) | (with_reducible refine Kd.C_drew ?_))); (case side4 => exact (Kd.R_reads' HO153.out).2.1); rintro e w12 ⟨rfl, hb⟩; refine ⟨_, rfl, ?_⟩; have n0_ := Aside0.mk (Kd.R_below (by (with_reducible repeat (first | apply Kd.R_alloc | apply Kd.R_drewN | apply Kd.R_drew)); exact HO149.out) hb); have n1_ := Aside0.mk (Kd.R_below (by (with_reducible repeat (first | apply Kd.R_alloc | apply Kd.R_drewN | apply Kd.R_drew)); exact HO153.out) hb); have n2_ := Aside0.mk (below_step (by repeat (first | (with_reducible first | exact HB.out | apply below_alloc | apply pw_below_drewN | apply below_drew1) | exact HB.out)) hb); clear HO149; clear HO153; clear HB; have HO149 := n0_; have HO153 := n1_; have HB := n2_; clear n0_ n1_ n2_; (try clear hb); (try clear hb2); (try clear hk); (try clear hi)))
      go_ret2
      exact ⟨by first | rfl | (simp [errW_none, errW_some] <;> rfl) | (simp [*, errW_none, errW_some] <;> rfl), by repeat (first | (with_reducible first | exact HB.out | apply below_alloc | apply pw_below_drewN | apply below_drew1) | exact HB.out)⟩
    · replace c6 := Bool.eq_false_iff.mpr c6
      subst c6
      have H1 : (some (false, false)) = some (r1, r2) := by rw [if_neg (show ¬ (false = true) by decide)] at H; exact H
      clear H
      have H := H1
      clear H1
      simp only [Option.some.injEq, Prod.mk.injEq] at H
      obtain ⟨rfl, rfl⟩ := H
      go_enter Tryd.func16, Tryd.ntmps16
      go_wp2_with (first | ((with_reducible refine gate_callee (f := 34) rfl ?_); refine goesL_ (some 12) rfl rfl Tryd.func34 (by kernel_rfl) rfl #[.string a0] rfl (by (try simp only [List.map_toArray, List.map_cons, List.map_nil]); first | done | rfl | (simp only [List.length_drop, List.length_take]; rfl)) ?_; (with_reducible refine (spec_Characters.calls k a0 t146 true _ A3.out).mono ?_); rintro e w13 ⟨v148, rfl, ho0, hb⟩; refine ⟨_, rfl, ?_⟩; have n0_ := Aside0.mk (Kd.R_lower ho0 (below_size (by repeat (first | (with_reducible first | exact HB.out | apply below_alloc | apply pw_below_drewN | apply below_drew1) | exact HB.out)))); have n1_ := Aside0.mk (below_step (by repeat (first | (with_reducible first | exact HB.out | apply below_alloc | apply pw_below_drewN | apply below_drew1) | exact HB.out)) hb); clear HB; have HO149 := n0_; have HB := n1_; clear n0_ n1_; (try clear hb); (try clear hb2); (try clear hk); (try clear hi); (try clear ho0)) | ((with_reducible refine gate_callee (f := 35) rfl ?_); refine goesL_ (some 17) rfl rfl Tryd.func35 (by kernel_rfl) rfl #[.string a1] rfl (by (try simp only [List.map_toArray, List.map_cons, List.map_nil]); first | done | rfl | (simp only [List.length_drop, List.length_take]; rfl)) ?_; (with_reducible refine (spec_Globs.calls k a1 t150 false _ A4.out).mono ?_); rintro e w14 ⟨v152, rfl, ho0, hb⟩; refine ⟨_, rfl, ?_⟩; have n0_ := Aside0.mk (Kd.R_below (by (with_reducible repeat (first | apply Kd.R_alloc | apply Kd.R_drewN | apply Kd.R_drew)); exact HO149.out) hb); have n1_ := Aside0.mk (Kd.R_lower ho0 (below_size (by repeat (first | (with_reducible first | exact HB.out | apply below_alloc | apply pw_below_drewN | apply below_drew1) | exact HB.out)))); have n2_ := Aside0.mk (below_step (by repeat (first | (with_reducible first | exact HB.out | apply below_alloc | apply pw_below_drewN | apply below_drew1) | exact HB.out)) hb); clear HO149; clear HB; have HO149 := n0_; have HO153 := n1_; have HB := n2_; clear n0_ n1_ n2_; (try clear hb); (try clear hb2); (try clear hk); (try clear hi); (try clear ho0)))
      go_ret2
      exact ⟨by first | rfl | (simp [errW_none, errW_some] <;> rfl) | (simp [*, errW_none, errW_some] <;> rfl), by repeat (first | (with_reducible first | exact HB.out | apply below_alloc | apply pw_below_drewN | apply below_drew1) | exact HB.out)⟩
  · replace c5 := Bool.eq_false_iff.mpr c5
    subst c5
    have H1 : (some (false, false)) = some (r1, r2) := by rw [if_neg (show ¬ (false = true) by decide)] at H; exact H
    clear H
    have H := H1
    clear H1
    simp only [Option.some.injEq, Prod.mk.injEq] at H
    obtain ⟨rfl, rfl⟩ := H
    go_enter Tryd.func16, Tryd.ntmps16
    go_wp2_with (first | ((with_reducible refine gate_callee (f := 34) rfl ?_); refine goesL_ (some 12) rfl rfl Tryd.func34 (by kernel_rfl) rfl #[.string a0] rfl (by (try simp only [List.map_toArray, List.map_cons, List.map_nil]); first | done | rfl | (simp only [List.length_drop, List.length_take]; rfl)) ?_; (with_reducible refine (spec_Characters.calls k a0 t146 false _ A3.out).mono ?_); rintro e w15 ⟨v148, rfl, ho0, hb⟩; refine ⟨_, rfl, ?_⟩; have n0_ := Aside0.mk (Kd.R_lower ho0 (below_size (by repeat (first | (with_reducible first | exact HB.out | apply below_alloc | apply pw_below_drewN | apply below_drew1) | exact HB.out)))); have n1_ := Aside0.mk (below_step (by repeat (first | (with_reducible first | exact HB.out | apply below_alloc | apply pw_below_drewN | apply below_drew1) | exact HB.out)) hb); clear HB; have HO149 := n0_; have HB := n1_; clear n0_ n1_; (try clear hb); (try clear hb2); (try clear hk); (try clear hi); (try clear ho0)) | ((with_reducible refine gate_callee (f := 35) rfl ?_); refine goesL_ (some 17) rfl rfl Tryd.func35 (by kernel_rfl) rfl #[.string a1] rfl (by (try simp only [List.map_toArray, List.map_cons, List.map_nil]); first | done | rfl | (simp only [List.length_drop, List.length_take]; rfl)) ?_; (with_reducible refine (spec_Globs.calls k a1 t150 t151 _ A4.out).mono ?_); rintro e w16 ⟨v152, rfl, ho0, hb⟩; refine ⟨_, rfl, ?_⟩; have n0_ := Aside0.mk (Kd.R_below (by (with_reducible repeat (first | apply Kd.R_alloc | apply Kd.R_drewN | apply Kd.R_drew)); exact HO149.out) hb); have n1_ := Aside0.mk (Kd.R_lower ho0 (below_size (by repeat (first | (with_reducible first | exact HB.out | apply below_alloc | apply pw_below_drewN | apply below_drew1) | exact HB.out)))); have n2_ := Aside0.mk (below_step (by repeat (first | (with_reducible first | exact HB.out | apply below_alloc | apply pw_below_drewN | apply below_drew1) | exact HB.out)) hb); clear HO149; clear HB; have HO149 := n0_; have HO153 := n1_; have HB := n2_; clear n0_ n1_ n2_; (try clear hb); (try clear hb2); (try clear hk); (try clear hi); (try clear ho0)))
    go_ret2
    exact ⟨by first | rfl | (simp [errW_none, errW_some] <;> rfl) | (simp [*, errW_none, errW_some] <;> rfl), by repeat (first | (with_reducible first | exact HB.out | apply below_alloc | apply pw_below_drewN | apply below_drew1) | exact HB.out)⟩

/-! ### laws_mtTold: function 14 -/
def laws_mtTold.f (k : Nat) (a0 : ByteArray) (a1 : ByteArray) : Option (Bool × Bool) := if (a0.size : Int) > 4096 then (some (false, false)) else (if (a1.size : Int) > 4096 then (some (false, false)) else ((spec_Matches.f k a0 a1).bind fun bt155 => (some (bt155.1, bt155.2))))
theorem laws_mtTold.mono : ∀ a0 a1 k, LeO (laws_mtTold.f k a0 a1) (laws_mtTold.f (k + 1) a0 a1) := by
  intro a0 a1 k
  unfold laws_mtTold.f
  repeat' first
      | (with_reducible exact spec_Matches.mono _ _ _)
      | (with_reducible exact LeO.refl _)
      | (with_reducible exact LeO.none _)
      | (with_reducible refine LeO.ite ?_ ?_)
      | (with_reducible refine LeO.bind ?_ (fun _ => ?_))
      | exact spec_Matches.mono _ _ _
      | exact LeO.none _
      | refine LeO.ite ?_ ?_
      | refine LeO.bind ?_ (fun _ => ?_)
set_option maxHeartbeats 8000000 in
set_option maxRecDepth 100000 in
theorem laws_mtTold.calls (k : Nat) (a0 : ByteArray) (a1 : ByteArray) (r1 : Bool) (r2 : Bool) (w : World) (h : laws_mtTold.f k a0 a1 = some (r1, r2)) :
    Calls Tryd.prog 14 #[.string a0, .string a1] w fun e w' => e = .returned (.tuple #[.bool r1, .bool r2]) ∧ Below w.heap.size w w' := by
  have HB := Aside0.mk (Below.refl w.heap.size w)
  have H : (if (a0.size : Int) > 4096 then (some (false, false)) else (if (a1.size : Int) > 4096 then (some (false, false)) else ((spec_Matches.f k a0 a1).bind fun bt155 => (some (bt155.1, bt155.2))))) = some (r1, r2) := h
  clear h
  by_cases c3 : (a0.size : Int) > 4096
  · rw [if_pos c3] at H
    have c3b0 : decide (4096 < (a0.size : Int)) = true := decide_eq_true c3
    have c3b1 : decide (4096 < a0.size) = true := decide_eq_true (by omega)
    clear c3
    simp only [Option.some.injEq, Prod.mk.injEq] at H
    obtain ⟨rfl, rfl⟩ := H
    go_enter Tryd.func14, Tryd.ntmps14
    go_wp2
    go_ret2
    exact ⟨by first | rfl | (simp [errW_none, errW_some] <;> rfl) | (simp [*, errW_none, errW_some] <;> rfl), by repeat (first | (with_reducible first | exact HB.out | apply below_alloc | apply pw_below_drewN | apply below_drew1) | exact HB.out)⟩
  · rw [if_neg c3] at H
    have c3b0 : decide (4096 < (a0.size : Int)) = false := decide_eq_false c3
    have c3b1 : decide (4096 < a0.size) = false := decide_eq_false (by omega)
    clear c3
    by_cases c4 : (a1.size : Int) > 4096
    · rw [if_pos c4] at H
      have c4b0 : decide (4096 < (a1.size : Int)) = true := decide_eq_true c4
      have c4b1 : decide (4096 < a1.size) = true := decide_eq_true (by omega)
      clear c4
      simp only [Option.some.injEq, Prod.mk.injEq] at H
      obtain ⟨rfl, rfl⟩ := H
      go_enter Tryd.func14, Tryd.ntmps14
      go_wp2
      go_ret2
      exact ⟨by first | rfl | (simp [errW_none, errW_some] <;> rfl) | (simp [*, errW_none, errW_some] <;> rfl), by repeat (first | (with_reducible first | exact HB.out | apply below_alloc | apply pw_below_drewN | apply below_drew1) | exact HB.out)⟩
    · rw [if_neg c4] at H
      have c4b0 : decide (4096 < (a1.size : Int)) = false := decide_eq_false c4
      have c4b1 : decide (4096 < a1.size) = false := decide_eq_false (by omega)
      clear c4
      replace H := Option.bind_eq_some_iff.mp H
      obtain ⟨⟨t155, t156⟩, A50, H⟩ := H
      replace H : (some (t155, t156)) = some (r1, r2) := H
      have A5 := Aside0.mk A50
      clear A50
      simp only [Option.some.injEq, Prod.mk.injEq] at H
      obtain ⟨rfl, rfl⟩ := H
      go_enter Tryd.func14, Tryd.ntmps14
      go_wp2_with (first | ((with_reducible refine gate_callee (f := 16) rfl ?_); refine goesL_ (some 16) rfl rfl Tryd.func16 (by kernel_rfl) rfl #[.string a0, .string a1] rfl (by (try simp only [List.map_toArray, List.map_cons, List.map_nil]); first | done | rfl | (simp only [List.length_drop, List.length_take]; rfl)) ?_; (with_reducible refine (spec_Matches.calls k a0 a1 t155 t156 _ A5.out).mono ?_); rintro e w6 ⟨rfl, hb⟩; refine ⟨_, rfl, ?_⟩; have n0_ := Aside0.mk (below_step (by repeat (first | (with_reducible first | exact HB.out | apply below_alloc | apply pw_below_drewN | apply below_drew1) | exact HB.out)) hb); clear HB; have HB := n0_; clear n0_; (try clear hb); (try clear hb2); (try clear hk); (try clear hi)))
      go_ret2
      exact ⟨by first | rfl | (simp [errW_none, errW_some] <;> rfl) | (simp [*, errW_none, errW_some] <;> rfl), by repeat (first | (with_reducible first | exact HB.out | apply below_alloc | apply pw_below_drewN | apply below_drew1) | exact HB.out)⟩

/-! ### match_tolower: function 76 -/
def match_tolower.f (a0 : Int) : Option (Int) := if a0 ≥ 65 then (if a0 ≤ 90 then (some (wrap32 (a0 + 32))) else (some a0)) else (some a0)
set_option maxHeartbeats 8000000 in
set_option maxRecDepth 100000 in
theorem match_tolower.calls (a0 : Int) (r : Int) (w : World) (h : match_tolower.f a0 = some r) :
    Calls Tryd.prog 76 #[.int .i32 a0] w fun e w' => e = .returned (.int .i32 r) ∧ Drawn0 w w' := by
  have H : (if a0 ≥ 65 then (if a0 ≤ 90 then (some (wrap32 (a0 + 32))) else (some a0)) else (some a0)) = some r := h
  clear h
  by_cases c2 : a0 ≥ 65
  · rw [if_pos c2] at H
    have c2b0 : decide (65 ≤ a0) = true := decide_eq_true c2
    clear c2
    by_cases c3 : a0 ≤ 90
    · rw [if_pos c3] at H
      have c3b0 : decide (a0 ≤ 90) = true := decide_eq_true c3
      clear c3
      obtain rfl := Option.some.inj H
      go_enter Tryd.func76, Tryd.ntmps76
      go_wp2
      go_ret
      exact ⟨by first | rfl | (simp; done) | (simp [*]; done), by repeat (first | exact Drawn0.refl _ | apply Drawn0.step)⟩
    · rw [if_neg c3] at H
      have c3b0 : decide (a0 ≤ 90) = false := decide_eq_false c3
      clear c3
      obtain rfl := Option.some.inj H
      go_enter Tryd.func76, Tryd.ntmps76
      go_wp2
      go_ret
      exact ⟨by first | rfl | (simp; done) | (simp [*]; done), by repeat (first | exact Drawn0.refl _ | apply Drawn0.step)⟩
  · rw [if_neg c2] at H
    have c2b0 : decide (65 ≤ a0) = false := decide_eq_false c2
    clear c2
    obtain rfl := Option.some.inj H
    go_enter Tryd.func76, Tryd.ntmps76
    go_wp2
    go_ret
    exact ⟨by first | rfl | (simp; done) | (simp [*]; done), by repeat (first | exact Drawn0.refl _ | apply Drawn0.step)⟩

end Go.Proofs.YtkdpkenhhcgnbaaDoor.PFnMtTrimSuffix
