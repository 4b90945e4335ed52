-- Written for this claim by this session's own program (wip/xprint).
import Derived.Test.YtmbengbkeelpaaaPFnGjIfValidx0
namespace Go.Proofs.Ytmbengbkeelpaaa.PFnGjIfValid
open Go.RowKit Go.Proofs.YtmbengbkeelpaaaW.PrintWords Go.Proofs.YtmbengbkeelpaaaW.PrintLast Go.Proofs.YtmbengbkeelpaaaW.PrintMore
attribute [local go_sem] max2_int min2_int max_two min_two max_three min_three max_four min_four   -- for this text's walks alone
set_option linter.unusedVariables false
set_option linter.unusedSimpArgs false

/-! ### gjson_validtrue: function 29 -/
def gjson_validtrue.f (l0 : List Int) (a1 : Int) : Option (Int × Bool) := if (wrap64 (a1 + 3)) ≤ (l0.length : Int) then (if 0 ≤ a1 then (if a1 < (l0.length : Int) then (if (rd l0 a1) = 114 then (if 0 ≤ (wrap64 (a1 + 1)) then (if (wrap64 (a1 + 1)) < (l0.length : Int) then (if (rd l0 (wrap64 (a1 + 1))) = 117 then (if 0 ≤ (wrap64 (a1 + 2)) then (if (wrap64 (a1 + 2)) < (l0.length : Int) then (if (rd l0 (wrap64 (a1 + 2))) = 101 then (some (wrap64 (a1 + 3), true)) else (some (a1, false))) else (none)) else (none)) else (some (a1, false))) else (none)) else (none)) else (some (a1, false))) else (none)) else (none)) else (some (a1, false))
set_option maxHeartbeats 8000000 in
set_option maxRecDepth 100000 in
theorem gjson_validtrue.calls (A0 : Option Addr) (c0 : Nat) (l0 : List Int) (a1 : Int) (r1 : Int) (r2 : Bool) (w : World) (hr0 : Kd.C (Kd.int .u8) w A0 l0.length l0) (hc0 : l0.length ≤ c0) (h : gjson_validtrue.f l0 a1 = some (r1, r2)) :
    Calls Try.prog 29 #[.slice A0 l0.length c0, .int .i64 a1] w fun e w' => e = .returned (.tuple #[.int .i64 r1, .bool r2]) ∧ Drawn0 w w' := by
  have HR0 := Aside0.mk hr0
  have HC0 := Aside0.mk hc0
  clear hr0 hc0
  have H : (if (wrap64 (a1 + 3)) ≤ (l0.length : Int) then (if 0 ≤ a1 then (if a1 < (l0.length : Int) then (if (rd l0 a1) = 114 then (if 0 ≤ (wrap64 (a1 + 1)) then (if (wrap64 (a1 + 1)) < (l0.length : Int) then (if (rd l0 (wrap64 (a1 + 1))) = 117 then (if 0 ≤ (wrap64 (a1 + 2)) then (if (wrap64 (a1 + 2)) < (l0.length : Int) then (if (rd l0 (wrap64 (a1 + 2))) = 101 then (some (wrap64 (a1 + 3), true)) else (some (a1, false))) else (none)) else (none)) else (some (a1, false))) else (none)) else (none)) else (some (a1, false))) else (none)) else (none)) else (some (a1, false))) = some (r1, r2) := h
  clear h
  by_cases c3 : (wrap64 (a1 + 3)) ≤ (l0.length : Int)
  · rw [if_pos c3] at H
    have c3b0 : decide ((wrap64 (a1 + 3)) ≤ (l0.length : Int)) = true := decide_eq_true c3
    clear c3
    by_cases c4 : 0 ≤ a1
    · rw [if_pos c4] at H
      have c4b0 : decide (0 ≤ a1) = true := decide_eq_true c4
      clear c4
      by_cases c5 : a1 < (l0.length : Int)
      · rw [if_pos c5] at H
        have c5b0 : decide (a1 < (l0.length : Int)) = true := decide_eq_true c5
        clear c5
        by_cases c6 : (rd l0 a1) = 114
        · rw [if_pos c6] at H
          have c6b0 : ((rd l0 a1) == 114) = true := beq_iff_eq.mpr c6
          have c6b1 : ((rd l0 a1) != 114) = false := bne_eq_false_iff_eq.mpr c6
          clear c6
          obtain ⟨ji7, hji7⟩ : ∃ j_ : Int, (wrap64 (a1 + 1)) = j_ := ⟨_, rfl⟩
          replace H : (if 0 ≤ (ji7) then (if (ji7) < (l0.length : Int) then (if (rd l0 (ji7)) = 117 then (if 0 ≤ (wrap64 (a1 + 2)) then (if (wrap64 (a1 + 2)) < (l0.length : Int) then (if (rd l0 (wrap64 (a1 + 2))) = 101 then (some (wrap64 (a1 + 3), true)) else (some (a1, false))) else (none)) else (none)) else (some (a1, false))) else (none)) else (none)) = some (r1, r2) := by first | (rw [hji7] at H; exact H) | (simp only [hji7] at H ⊢; exact H)
          have hji7w : (IntKind.i64.wrap (a1 + 1)) = ji7 := (i64_w _).trans hji7
          by_cases c8 : 0 ≤ (ji7)
          · rw [if_pos c8] at H
            have c8b0 : decide (0 ≤ (ji7)) = true := decide_eq_true c8
            clear c8
            by_cases c9 : (ji7) < (l0.length : Int)
            · rw [if_pos c9] at H
              have c9b0 : decide ((ji7) < (l0.length : Int)) = true := decide_eq_true c9
              clear c9
              by_cases c10 : (rd l0 (ji7)) = 117
              · rw [if_pos c10] at H
                have c10b0 : ((rd l0 (ji7)) == 117) = true := beq_iff_eq.mpr c10
                have c10b1 : ((rd l0 (ji7)) != 117) = false := bne_eq_false_iff_eq.mpr c10
                clear c10
                obtain ⟨ji11, hji11⟩ : ∃ j_ : Int, (wrap64 (a1 + 2)) = j_ := ⟨_, rfl⟩
                replace H : (if 0 ≤ (ji11) then (if (ji11) < (l0.length : Int) then (if (rd l0 (ji11)) = 101 then (some (wrap64 (a1 + 3), true)) else (some (a1, false))) else (none)) else (none)) = some (r1, r2) := by first | (rw [hji11] at H; exact H) | (simp only [hji11] at H ⊢; exact H)
                have hji11w : (IntKind.i64.wrap (a1 + 2)) = ji11 := (i64_w _).trans hji11
                by_cases c12 : 0 ≤ (ji11)
                · rw [if_pos c12] at H
                  have c12b0 : decide (0 ≤ (ji11)) = true := decide_eq_true c12
                  clear c12
                  by_cases c13 : (ji11) < (l0.length : Int)
                  · rw [if_pos c13] at H
                    have c13b0 : decide ((ji11) < (l0.length : Int)) = true := decide_eq_true c13
                    clear c13
                    by_cases c14 : (rd l0 (ji11)) = 101
                    · rw [if_pos c14] at H
                      have c14b0 : ((rd l0 (ji11)) == 101) = true := beq_iff_eq.mpr c14
                      have c14b1 : ((rd l0 (ji11)) != 101) = false := bne_eq_false_iff_eq.mpr c14
                      clear c14
                      simp only [Option.some.injEq, Prod.mk.injEq] at H
                      obtain ⟨rfl, rfl⟩ := H
                      have p311 : 0 ≤ (a1 : Int) := of_decide_eq_true (by first | (with_reducible assumption) | assumption)
                      have q311 : a1 < (l0.length : Int) := of_decide_eq_true (by first | (with_reducible assumption) | assumption)
                      obtain ⟨ad311, e311, hx311_0⟩ := Kd.at_int HR0.out a1 p311 q311
                      cases e311
                      replace p311 := eq_true p311
                      replace q311 := eq_true q311
                      have p312 : 0 ≤ ((ji7) : Int) := of_decide_eq_true (by first | (with_reducible assumption) | assumption)
                      have q312 : (ji7) < (l0.length : Int) := of_decide_eq_true (by first | (with_reducible assumption) | assumption)
                      obtain ⟨ad312, e312, hx312_0⟩ := Kd.at_int HR0.out (ji7) p312 q312
                      obtain rfl : ad311 = ad312 := (by injection e312)
                      replace p312 := eq_true p312
                      replace q312 := eq_true q312
                      have p313 : 0 ≤ ((ji11) : Int) := of_decide_eq_true (by first | (with_reducible assumption) | assumption)
                      have q313 : (ji11) < (l0.length : Int) := of_decide_eq_true (by first | (with_reducible assumption) | assumption)
                      obtain ⟨ad313, e313, hx313_0⟩ := Kd.at_int HR0.out (ji11) p313 q313
                      obtain rfl : ad311 = ad313 := (by injection e313)
                      replace p313 := eq_true p313
                      replace q313 := eq_true q313
                      go_enter Try.func29, Try.ntmps29
                      go_wp2
                      go_ret2
                      exact ⟨by first | rfl | (simp; done) | (simp only [← hji7, ← hji11] <;> (first | rfl | (simp; done))) | (simp [*]; done) | (simp only [*]; done), by repeat (first | exact Drawn0.refl _ | apply Drawn0.step)⟩
                    · rw [if_neg c14] at H
                      have c14b0 : ((rd l0 (ji11)) == 101) = false := beq_eq_false_iff_ne.mpr c14
                      have c14b1 : ((rd l0 (ji11)) != 101) = true := bne_iff_ne.mpr c14
                      simp only [Option.some.injEq, Prod.mk.injEq] at H
                      obtain ⟨rfl, rfl⟩ := H
                      have p311 : 0 ≤ (a1 : Int) := of_decide_eq_true (by first | (with_reducible assumption) | assumption)
                      have q311 : a1 < (l0.length : Int) := of_decide_eq_true (by first | (with_reducible assumption) | assumption)
                      obtain ⟨ad311, e311, hx311_0⟩ := Kd.at_int HR0.out a1 p311 q311
                      cases e311
                      replace p311 := eq_true p311
                      replace q311 := eq_true q311
                      have p312 : 0 ≤ ((ji7) : Int) := of_decide_eq_true (by first | (with_reducible assumption) | assumption)
                      have q312 : (ji7) < (l0.length : Int) := of_decide_eq_true (by first | (with_reducible assumption) | assumption)
                      obtain ⟨ad312, e312, hx312_0⟩ := Kd.at_int HR0.out (ji7) p312 q312
                      obtain rfl : ad311 = ad312 := (by injection e312)
                      replace p312 := eq_true p312
                      replace q312 := eq_true q312
                      have p313 : 0 ≤ ((ji11) : Int) := of_decide_eq_true (by first | (with_reducible assumption) | assumption)
                      have q313 : (ji11) < (l0.length : Int) := of_decide_eq_true (by first | (with_reducible assumption) | assumption)
                      obtain ⟨ad313, e313, hx313_0⟩ := Kd.at_int HR0.out (ji11) p313 q313
                      obtain rfl : ad311 = ad313 := (by injection e313)
                      replace p313 := eq_true p313
                      replace q313 := eq_true q313
                      go_enter Try.func29, Try.ntmps29
                      go_wp2
                      go_ret2
                      exact ⟨by first | rfl | (simp; done) | (simp only [← hji7, ← hji11] <;> (first | rfl | (simp; done))) | (simp [*]; done) | (simp only [*]; done), by repeat (first | exact Drawn0.refl _ | apply Drawn0.step)⟩
                  · rw [if_neg c13] at H
                    exact absurd H (by simp)
                · rw [if_neg c12] at H
                  exact absurd H (by simp)
              · rw [if_neg c10] at H
                have c10b0 : ((rd l0 (ji7)) == 117) = false := beq_eq_false_iff_ne.mpr c10
                have c10b1 : ((rd l0 (ji7)) != 117) = true := bne_iff_ne.mpr c10
                simp only [Option.some.injEq, Prod.mk.injEq] at H
                obtain ⟨rfl, rfl⟩ := H
                have p311 : 0 ≤ (a1 : Int) := of_decide_eq_true (by first | (with_reducible assumption) | assumption)
                have q311 : a1 < (l0.length : Int) := of_decide_eq_true (by first | (with_reducible assumption) | assumption)
                obtain ⟨ad311, e311, hx311_0⟩ := Kd.at_int HR0.out a1 p311 q311
                cases e311
                replace p311 := eq_true p311
                replace q311 := eq_true q311
                have p312 : 0 ≤ ((ji7) : Int) := of_decide_eq_true (by first | (with_reducible assumption) | assumption)
                have q312 : (ji7) < (l0.length : Int) := of_decide_eq_true (by first | (with_reducible assumption) | assumption)
                obtain ⟨ad312, e312, hx312_0⟩ := Kd.at_int HR0.out (ji7) p312 q312
                obtain rfl : ad311 = ad312 := (by injection e312)
                replace p312 := eq_true p312
                replace q312 := eq_true q312
                go_enter Try.func29, Try.ntmps29
                go_wp2
                go_ret2
                exact ⟨by first | rfl | (simp; done) | (simp only [← hji7] <;> (first | rfl | (simp; done))) | (simp [*]; done) | (simp only [*]; done), by repeat (first | exact Drawn0.refl _ | apply Drawn0.step)⟩
            · rw [if_neg c9] at H
              exact absurd H (by simp)
          · rw [if_neg c8] at H
            exact absurd H (by simp)
        · rw [if_neg c6] at H
          have c6b0 : ((rd l0 a1) == 114) = false := beq_eq_false_iff_ne.mpr c6
          have c6b1 : ((rd l0 a1) != 114) = true := bne_iff_ne.mpr c6
          simp only [Option.some.injEq, Prod.mk.injEq] at H
          obtain ⟨rfl, rfl⟩ := H
          have p311 : 0 ≤ (a1 : Int) := of_decide_eq_true (by first | (with_reducible assumption) | assumption)
          have q311 : a1 < (l0.length : Int) := of_decide_eq_true (by first | (with_reducible assumption) | assumption)
          obtain ⟨ad311, e311, hx311_0⟩ := Kd.at_int HR0.out a1 p311 q311
          cases e311
          replace p311 := eq_true p311
          replace q311 := eq_true q311
          go_enter Try.func29, Try.ntmps29
          go_wp2
          go_ret2
          exact ⟨by first | rfl | (simp; done) | (simp [*]; done), by repeat (first | exact Drawn0.refl _ | apply Drawn0.step)⟩
      · rw [if_neg c5] at H
        exact absurd H (by simp)
    · rw [if_neg c4] at H
      exact absurd H (by simp)
  · rw [if_neg c3] at H
    have c3b0 : decide ((wrap64 (a1 + 3)) ≤ (l0.length : Int)) = false := decide_eq_false c3
    clear c3
    simp only [Option.some.injEq, Prod.mk.injEq] at H
    obtain ⟨rfl, rfl⟩ := H
    go_enter Try.func29, Try.ntmps29
    go_wp2
    go_ret2
    exact ⟨by first | rfl | (simp; done) | (simp [*]; done), by repeat (first | exact Drawn0.refl _ | apply Drawn0.step)⟩

/-! ### gjson_validfalse: function 30 -/
def gjson_validfalse.f (l0 : List Int) (a1 : Int) : Option (Int × Bool) := if (wrap64 (a1 + 4)) ≤ (l0.length : Int) then (if 0 ≤ a1 then (if a1 < (l0.length : Int) then (if (rd l0 a1) = 97 then (if 0 ≤ (wrap64 (a1 + 1)) then (if (wrap64 (a1 + 1)) < (l0.length : Int) then (if (rd l0 (wrap64 (a1 + 1))) = 108 then (if 0 ≤ (wrap64 (a1 + 2)) then (if (wrap64 (a1 + 2)) < (l0.length : Int) then (if (rd l0 (wrap64 (a1 + 2))) = 115 then (if 0 ≤ (wrap64 (a1 + 3)) then (if (wrap64 (a1 + 3)) < (l0.length : Int) then (if (rd l0 (wrap64 (a1 + 3))) = 101 then (some (wrap64 (a1 + 4), true)) else (some (a1, false))) else (none)) else (none)) else (some (a1, false))) else (none)) else (none)) else (some (a1, false))) else (none)) else (none)) else (some (a1, false))) else (none)) else (none)) else (some (a1, false))
set_option maxHeartbeats 8000000 in
set_option maxRecDepth 100000 in
theorem gjson_validfalse.calls (A0 : Option Addr) (c0 : Nat) (l0 : List Int) (a1 : Int) (r1 : Int) (r2 : Bool) (w : World) (hr0 : Kd.C (Kd.int .u8) w A0 l0.length l0) (hc0 : l0.length ≤ c0) (h : gjson_validfalse.f l0 a1 = some (r1, r2)) :
    Calls Try.prog 30 #[.slice A0 l0.length c0, .int .i64 a1] w fun e w' => e = .returned (.tuple #[.int .i64 r1, .bool r2]) ∧ Drawn0 w w' := by
  have HR0 := Aside0.mk hr0
  have HC0 := Aside0.mk hc0
  clear hr0 hc0
  have H : (if (wrap64 (a1 + 4)) ≤ (l0.length : Int) then (if 0 ≤ a1 then (if a1 < (l0.length : Int) then (if (rd l0 a1) = 97 then (if 0 ≤ (wrap64 (a1 + 1)) then (if (wrap64 (a1 + 1)) < (l0.length : Int) then (if (rd l0 (wrap64 (a1 + 1))) = 108 then (if 0 ≤ (wrap64 (a1 + 2)) then (if (wrap64 (a1 + 2)) < (l0.length : Int) then (if (rd l0 (wrap64 (a1 + 2))) = 115 then (if 0 ≤ (wrap64 (a1 + 3)) then (if (wrap64 (a1 + 3)) < (l0.length : Int) then (if (rd l0 (wrap64 (a1 + 3))) = 101 then (some (wrap64 (a1 + 4), true)) else (some (a1, false))) else (none)) else (none)) else (some (a1, false))) else (none)) else (none)) else (some (a1, false))) else (none)) else (none)) else (some (a1, false))) else (none)) else (none)) else (some (a1, false))) = some (r1, r2) := h
  clear h
  by_cases c3 : (wrap64 (a1 + 4)) ≤ (l0.length : Int)
  · rw [if_pos c3] at H
    have c3b0 : decide ((wrap64 (a1 + 4)) ≤ (l0.length : Int)) = true := decide_eq_true c3
    clear c3
    by_cases c4 : 0 ≤ a1
    · rw [if_pos c4] at H
      have c4b0 : decide (0 ≤ a1) = true := decide_eq_true c4
      clear c4
      by_cases c5 : a1 < (l0.length : Int)
      · rw [if_pos c5] at H
        have c5b0 : decide (a1 < (l0.length : Int)) = true := decide_eq_true c5
        clear c5
        by_cases c6 : (rd l0 a1) = 97
        · rw [if_pos c6] at H
          have c6b0 : ((rd l0 a1) == 97) = true := beq_iff_eq.mpr c6
          have c6b1 : ((rd l0 a1) != 97) = false := bne_eq_false_iff_eq.mpr c6
          clear c6
          obtain ⟨ji7, hji7⟩ : ∃ j_ : Int, (wrap64 (a1 + 1)) = j_ := ⟨_, rfl⟩
          replace H : (if 0 ≤ (ji7) then (if (ji7) < (l0.length : Int) then (if (rd l0 (ji7)) = 108 then (if 0 ≤ (wrap64 (a1 + 2)) then (if (wrap64 (a1 + 2)) < (l0.length : Int) then (if (rd l0 (wrap64 (a1 + 2))) = 115 then (if 0 ≤ (wrap64 (a1 + 3)) then (if (wrap64 (a1 + 3)) < (l0.length : Int) then (if (rd l0 (wrap64 (a1 + 3))) = 101 then (some (wrap64 (a1 + 4), true)) else (some (a1, false))) else (none)) else (none)) else (some (a1, false))) else (none)) else (none)) else (some (a1, false))) else (none)) else (none)) = some (r1, r2) := by first | (rw [hji7] at H; exact H) | (simp only [hji7] at H ⊢; exact H)
          have hji7w : (IntKind.i64.wrap (a1 + 1)) = ji7 := (i64_w _).trans hji7
          by_cases c8 : 0 ≤ (ji7)
          · rw [if_pos c8] at H
            have c8b0 : decide (0 ≤ (ji7)) = true := decide_eq_true c8
            clear c8
            by_cases c9 : (ji7) < (l0.length : Int)
            · rw [if_pos c9] at H
              have c9b0 : decide ((ji7) < (l0.length : Int)) = true := decide_eq_true c9
              clear c9
              by_cases c10 : (rd l0 (ji7)) = 108
              · rw [if_pos c10] at H
                have c10b0 : ((rd l0 (ji7)) == 108) = true := beq_iff_eq.mpr c10
                have c10b1 : ((rd l0 (ji7)) != 108) = false := bne_eq_false_iff_eq.mpr c10
                clear c10
                obtain ⟨ji11, hji11⟩ : ∃ j_ : Int, (wrap64 (a1 + 2)) = j_ := ⟨_, rfl⟩
                replace H : (if 0 ≤ (ji11) then (if (ji11) < (l0.length : Int) then (if (rd l0 (ji11)) = 115 then (if 0 ≤ (wrap64 (a1 + 3)) then (if (wrap64 (a1 + 3)) < (l0.length : Int) then (if (rd l0 (wrap64 (a1 + 3))) = 101 then (some (wrap64 (a1 + 4), true)) else (some (a1, false))) else (none)) else (none)) else (some (a1, false))) else (none)) else (none)) = some (r1, r2) := by first | (rw [hji11] at H; exact H) | (simp only [hji11] at H ⊢; exact H)
                have hji11w : (IntKind.i64.wrap (a1 + 2)) = ji11 := (i64_w _).trans hji11
                by_cases c12 : 0 ≤ (ji11)
                · rw [if_pos c12] at H
                  have c12b0 : decide (0 ≤ (ji11)) = true := decide_eq_true c12
                  clear c12
                  by_cases c13 : (ji11) < (l0.length : Int)
                  · rw [if_pos c13] at H
                    have c13b0 : decide ((ji11) < (l0.length : Int)) = true := decide_eq_true c13
                    clear c13
                    by_cases c14 : (rd l0 (ji11)) = 115
                    · rw [if_pos c14] at H
                      have c14b0 : ((rd l0 (ji11)) == 115) = true := beq_iff_eq.mpr c14
                      have c14b1 : ((rd l0 (ji11)) != 115) = false := bne_eq_false_iff_eq.mpr c14
                      clear c14
                      obtain ⟨ji15, hji15⟩ : ∃ j_ : Int, (wrap64 (a1 + 3)) = j_ := ⟨_, rfl⟩
                      replace H : (if 0 ≤ (ji15) then (if (ji15) < (l0.length : Int) then (if (rd l0 (ji15)) = 101 then (some (wrap64 (a1 + 4), true)) else (some (a1, false))) else (none)) else (none)) = some (r1, r2) := by first | (rw [hji15] at H; exact H) | (simp only [hji15] at H ⊢; exact H)
                      have hji15w : (IntKind.i64.wrap (a1 + 3)) = ji15 := (i64_w _).trans hji15
                      by_cases c16 : 0 ≤ (ji15)
                      · rw [if_pos c16] at H
                        have c16b0 : decide (0 ≤ (ji15)) = true := decide_eq_true c16
                        clear c16
                        by_cases c17 : (ji15) < (l0.length : Int)
                        · rw [if_pos c17] at H
                          have c17b0 : decide ((ji15) < (l0.length : Int)) = true := decide_eq_true c17
                          clear c17
                          by_cases c18 : (rd l0 (ji15)) = 101
                          · rw [if_pos c18] at H
                            have c18b0 : ((rd l0 (ji15)) == 101) = true := beq_iff_eq.mpr c18
                            have c18b1 : ((rd l0 (ji15)) != 101) = false := bne_eq_false_iff_eq.mpr c18
                            clear c18
                            simp only [Option.some.injEq, Prod.mk.injEq] at H
                            obtain ⟨rfl, rfl⟩ := H
                            have p314 : 0 ≤ (a1 : Int) := of_decide_eq_true (by first | (with_reducible assumption) | assumption)
                            have q314 : a1 < (l0.length : Int) := of_decide_eq_true (by first | (with_reducible assumption) | assumption)
                            obtain ⟨ad314, e314, hx314_0⟩ := Kd.at_int HR0.out a1 p314 q314
                            cases e314
                            replace p314 := eq_true p314
                            replace q314 := eq_true q314
                            have p315 : 0 ≤ ((ji7) : Int) := of_decide_eq_true (by first | (with_reducible assumption) | assumption)
                            have q315 : (ji7) < (l0.length : Int) := of_decide_eq_true (by first | (with_reducible assumption) | assumption)
                            obtain ⟨ad315, e315, hx315_0⟩ := Kd.at_int HR0.out (ji7) p315 q315
                            obtain rfl : ad314 = ad315 := (by injection e315)
                            replace p315 := eq_true p315
                            replace q315 := eq_true q315
                            have p316 : 0 ≤ ((ji11) : Int) := of_decide_eq_true (by first | (with_reducible assumption) | assumption)
                            have q316 : (ji11) < (l0.length : Int) := of_decide_eq_true (by first | (with_reducible assumption) | assumption)
                            obtain ⟨ad316, e316, hx316_0⟩ := Kd.at_int HR0.out (ji11) p316 q316
                            obtain rfl : ad314 = ad316 := (by injection e316)
                            replace p316 := eq_true p316
                            replace q316 := eq_true q316
                            have p317 : 0 ≤ ((ji15) : Int) := of_decide_eq_true (by first | (with_reducible assumption) | assumption)
                            have q317 : (ji15) < (l0.length : Int) := of_decide_eq_true (by first | (with_reducible assumption) | assumption)
                            obtain ⟨ad317, e317, hx317_0⟩ := Kd.at_int HR0.out (ji15) p317 q317
                            obtain rfl : ad314 = ad317 := (by injection e317)
                            replace p317 := eq_true p317
                            replace q317 := eq_true q317
                            go_enter Try.func30, Try.ntmps30
                            go_wp2
                            go_ret2
                            exact ⟨by first | rfl | (simp; done) | (simp only [← hji7, ← hji11, ← hji15] <;> (first | rfl | (simp; done))) | (simp [*]; done) | (simp only [*]; done), by repeat (first | exact Drawn0.refl _ | apply Drawn0.step)⟩
                          · rw [if_neg c18] at H
                            have c18b0 : ((rd l0 (ji15)) == 101) = false := beq_eq_false_iff_ne.mpr c18
                            have c18b1 : ((rd l0 (ji15)) != 101) = true := bne_iff_ne.mpr c18
                            simp only [Option.some.injEq, Prod.mk.injEq] at H
                            obtain ⟨rfl, rfl⟩ := H
                            have p314 : 0 ≤ (a1 : Int) := of_decide_eq_true (by first | (with_reducible assumption) | assumption)
                            have q314 : a1 < (l0.length : Int) := of_decide_eq_true (by first | (with_reducible assumption) | assumption)
                            obtain ⟨ad314, e314, hx314_0⟩ := Kd.at_int HR0.out a1 p314 q314
                            cases e314
                            replace p314 := eq_true p314
                            replace q314 := eq_true q314
                            have p315 : 0 ≤ ((ji7) : Int) := of_decide_eq_true (by first | (with_reducible assumption) | assumption)
                            have q315 : (ji7) < (l0.length : Int) := of_decide_eq_true (by first | (with_reducible assumption) | assumption)
                            obtain ⟨ad315, e315, hx315_0⟩ := Kd.at_int HR0.out (ji7) p315 q315
                            obtain rfl : ad314 = ad315 := (by injection e315)
                            replace p315 := eq_true p315
                            replace q315 := eq_true q315
                            have p316 : 0 ≤ ((ji11) : Int) := of_decide_eq_true (by first | (with_reducible assumption) | assumption)
                            have q316 : (ji11) < (l0.length : Int) := of_decide_eq_true (by first | (with_reducible assumption) | assumption)
                            obtain ⟨ad316, e316, hx316_0⟩ := Kd.at_int HR0.out (ji11) p316 q316
                            obtain rfl : ad314 = ad316 := (by injection e316)
                            replace p316 := eq_true p316
                            replace q316 := eq_true q316
                            have p317 : 0 ≤ ((ji15) : Int) := of_decide_eq_true (by first | (with_reducible assumption) | assumption)
                            have q317 : (ji15) < (l0.length : Int) := of_decide_eq_true (by first | (with_reducible assumption) | assumption)
                            obtain ⟨ad317, e317, hx317_0⟩ := Kd.at_int HR0.out (ji15) p317 q317
                            obtain rfl : ad314 = ad317 := (by injection e317)
                            replace p317 := eq_true p317
                            replace q317 := eq_true q317
                            go_enter Try.func30, Try.ntmps30
                            go_wp2
                            go_ret2
                            exact ⟨by first | rfl | (simp; done) | (simp only [← hji7, ← hji11, ← hji15] <;> (first | rfl | (simp; done))) | (simp [*]; done) | (simp only [*]; done), by repeat (first | exact Drawn0.refl _ | apply Drawn0.step)⟩
                        · rw [if_neg c17] at H
                          exact absurd H (by simp)
                      · rw [if_neg c16] at H
                        exact absurd H (by simp)
                    · rw [if_neg c14] at H
                      have c14b0 : ((rd l0 (ji11)) == 115) = false := beq_eq_false_iff_ne.mpr c14
                      have c14b1 : ((rd l0 (ji11)) != 115) = true := bne_iff_ne.mpr c14
                      simp only [Option.some.injEq, Prod.mk.injEq] at H
                      obtain ⟨rfl, rfl⟩ := H
                      have p314 : 0 ≤ (a1 : Int) := of_decide_eq_true (by first | (with_reducible assumption) | assumption)
                      have q314 : a1 < (l0.length : Int) := of_decide_eq_true (by first | (with_reducible assumption) | assumption)
                      obtain ⟨ad314, e314, hx314_0⟩ := Kd.at_int HR0.out a1 p314 q314
                      cases e314
                      replace p314 := eq_true p314
                      replace q314 := eq_true q314
                      have p315 : 0 ≤ ((ji7) : Int) := of_decide_eq_true (by first | (with_reducible assumption) | assumption)
                      have q315 : (ji7) < (l0.length : Int) := of_decide_eq_true (by first | (with_reducible assumption) | assumption)
                      obtain ⟨ad315, e315, hx315_0⟩ := Kd.at_int HR0.out (ji7) p315 q315
                      obtain rfl : ad314 = ad315 := (by injection e315)
                      replace p315 := eq_true p315
                      replace q315 := eq_true q315
                      have p316 : 0 ≤ ((ji11) : Int) := of_decide_eq_true (by first | (with_reducible assumption) | assumption)
                      have q316 : (ji11) < (l0.length : Int) := of_decide_eq_true (by first | (with_reducible assumption) | assumption)
                      obtain ⟨ad316, e316, hx316_0⟩ := Kd.at_int HR0.out (ji11) p316 q316
                      obtain rfl : ad314 = ad316 := (by injection e316)
                      replace p316 := eq_true p316
                      replace q316 := eq_true q316
                      go_enter Try.func30, Try.ntmps30
                      go_wp2
                      go_ret2
                      exact ⟨by first | rfl | (simp; done) | (simp only [← hji7, ← hji11] <;> (first | rfl | (simp; done))) | (simp [*]; done) | (simp only [*]; done), by repeat (first | exact Drawn0.refl _ | apply Drawn0.step)⟩
                  · rw [if_neg c13] at H
                    exact absurd H (by simp)
                · rw [if_neg c12] at H
                  exact absurd H (by simp)
              · rw [if_neg c10] at H
                have c10b0 : ((rd l0 (ji7)) == 108) = false := beq_eq_false_iff_ne.mpr c10
                have c10b1 : ((rd l0 (ji7)) != 108) = true := bne_iff_ne.mpr c10
                simp only [Option.some.injEq, Prod.mk.injEq] at H
                obtain ⟨rfl, rfl⟩ := H
                have p314 : 0 ≤ (a1 : Int) := of_decide_eq_true (by first | (with_reducible assumption) | assumption)
                have q314 : a1 < (l0.length : Int) := of_decide_eq_true (by first | (with_reducible assumption) | assumption)
                obtain ⟨ad314, e314, hx314_0⟩ := Kd.at_int HR0.out a1 p314 q314
                cases e314
                replace p314 := eq_true p314
                replace q314 := eq_true q314
                have p315 : 0 ≤ ((ji7) : Int) := of_decide_eq_true (by first | (with_reducible assumption) | assumption)
                have q315 : (ji7) < (l0.length : Int) := of_decide_eq_true (by first | (with_reducible assumption) | assumption)
                obtain ⟨ad315, e315, hx315_0⟩ := Kd.at_int HR0.out (ji7) p315 q315
                obtain rfl : ad314 = ad315 := (by injection e315)
                replace p315 := eq_true p315
                replace q315 := eq_true q315
                go_enter Try.func30, Try.ntmps30
                go_wp2
                go_ret2
                exact ⟨by first | rfl | (simp; done) | (simp only [← hji7] <;> (first | rfl | (simp; done))) | (simp [*]; done) | (simp only [*]; done), by repeat (first | exact Drawn0.refl _ | apply Drawn0.step)⟩
            · rw [if_neg c9] at H
              exact absurd H (by simp)
          · rw [if_neg c8] at H
            exact absurd H (by simp)
        · rw [if_neg c6] at H
          have c6b0 : ((rd l0 a1) == 97) = false := beq_eq_false_iff_ne.mpr c6
          have c6b1 : ((rd l0 a1) != 97) = true := bne_iff_ne.mpr c6
          simp only [Option.some.injEq, Prod.mk.injEq] at H
          obtain ⟨rfl, rfl⟩ := H
          have p314 : 0 ≤ (a1 : Int) := of_decide_eq_true (by first | (with_reducible assumption) | assumption)
          have q314 : a1 < (l0.length : Int) := of_decide_eq_true (by first | (with_reducible assumption) | assumption)
          obtain ⟨ad314, e314, hx314_0⟩ := Kd.at_int HR0.out a1 p314 q314
          cases e314
          replace p314 := eq_true p314
          replace q314 := eq_true q314
          go_enter Try.func30, Try.ntmps30
          go_wp2
          go_ret2
          exact ⟨by first | rfl | (simp; done) | (simp [*]; done), by repeat (first | exact Drawn0.refl _ | apply Drawn0.step)⟩
      · rw [if_neg c5] at H
        exact absurd H (by simp)
    · rw [if_neg c4] at H
      exact absurd H (by simp)
  · rw [if_neg c3] at H
    have c3b0 : decide ((wrap64 (a1 + 4)) ≤ (l0.length : Int)) = false := decide_eq_false c3
    clear c3
    simp only [Option.some.injEq, Prod.mk.injEq] at H
    obtain ⟨rfl, rfl⟩ := H
    go_enter Try.func30, Try.ntmps30
    go_wp2
    go_ret2
    exact ⟨by first | rfl | (simp; done) | (simp [*]; done), by repeat (first | exact Drawn0.refl _ | apply Drawn0.step)⟩

/-! ### gjson_validnull: function 31 -/
def gjson_validnull.f (l0 : List Int) (a1 : Int) : Option (Int × Bool) := if (wrap64 (a1 + 3)) ≤ (l0.length : Int) then (if 0 ≤ a1 then (if a1 < (l0.length : Int) then (if (rd l0 a1) = 117 then (if 0 ≤ (wrap64 (a1 + 1)) then (if (wrap64 (a1 + 1)) < (l0.length : Int) then (if (rd l0 (wrap64 (a1 + 1))) = 108 then (if 0 ≤ (wrap64 (a1 + 2)) then (if (wrap64 (a1 + 2)) < (l0.length : Int) then (if (rd l0 (wrap64 (a1 + 2))) = 108 then (some (wrap64 (a1 + 3), true)) else (some (a1, false))) else (none)) else (none)) else (some (a1, false))) else (none)) else (none)) else (some (a1, false))) else (none)) else (none)) else (some (a1, false))
set_option maxHeartbeats 8000000 in
set_option maxRecDepth 100000 in
theorem gjson_validnull.calls (A0 : Option Addr) (c0 : Nat) (l0 : List Int) (a1 : Int) (r1 : Int) (r2 : Bool) (w : World) (hr0 : Kd.C (Kd.int .u8) w A0 l0.length l0) (hc0 : l0.length ≤ c0) (h : gjson_validnull.f l0 a1 = some (r1, r2)) :
    Calls Try.prog 31 #[.slice A0 l0.length c0, .int .i64 a1] w fun e w' => e = .returned (.tuple #[.int .i64 r1, .bool r2]) ∧ Drawn0 w w' := by
  have HR0 := Aside0.mk hr0
  have HC0 := Aside0.mk hc0
  clear hr0 hc0
  have H : (if (wrap64 (a1 + 3)) ≤ (l0.length : Int) then (if 0 ≤ a1 then (if a1 < (l0.length : Int) then (if (rd l0 a1) = 117 then (if 0 ≤ (wrap64 (a1 + 1)) then (if (wrap64 (a1 + 1)) < (l0.length : Int) then (if (rd l0 (wrap64 (a1 + 1))) = 108 then (if 0 ≤ (wrap64 (a1 + 2)) then (if (wrap64 (a1 + 2)) < (l0.length : Int) then (if (rd l0 (wrap64 (a1 + 2))) = 108 then (some (wrap64 (a1 + 3), true)) else (some (a1, false))) else (none)) else (none)) else (some (a1, false))) else (none)) else (none)) else (some (a1, false))) else (none)) else (none)) else (some (a1, false))) = some (r1, r2) := h
  clear h
  by_cases c3 : (wrap64 (a1 + 3)) ≤ (l0.length : Int)
  · rw [if_pos c3] at H
    have c3b0 : decide ((wrap64 (a1 + 3)) ≤ (l0.length : Int)) = true := decide_eq_true c3
    clear c3
    by_cases c4 : 0 ≤ a1
    · rw [if_pos c4] at H
      have c4b0 : decide (0 ≤ a1) = true := decide_eq_true c4
      clear c4
      by_cases c5 : a1 < (l0.length : Int)
      · rw [if_pos c5] at H
        have c5b0 : decide (a1 < (l0.length : Int)) = true := decide_eq_true c5
        clear c5
        by_cases c6 : (rd l0 a1) = 117
        · rw [if_pos c6] at H
          have c6b0 : ((rd l0 a1) == 117) = true := beq_iff_eq.mpr c6
          have c6b1 : ((rd l0 a1) != 117) = false := bne_eq_false_iff_eq.mpr c6
          clear c6
          obtain ⟨ji7, hji7⟩ : ∃ j_ : Int, (wrap64 (a1 + 1)) = j_ := ⟨_, rfl⟩
          replace H : (if 0 ≤ (ji7) then (if (ji7) < (l0.length : Int) then (if (rd l0 (ji7)) = 108 then (if 0 ≤ (wrap64 (a1 + 2)) then (if (wrap64 (a1 + 2)) < (l0.length : Int) then (if (rd l0 (wrap64 (a1 + 2))) = 108 then (some (wrap64 (a1 + 3), true)) else (some (a1, false))) else (none)) else (none)) else (some (a1, false))) else (none)) else (none)) = some (r1, r2) := by first | (rw [hji7] at H; exact H) | (simp only [hji7] at H ⊢; exact H)
          have hji7w : (IntKind.i64.wrap (a1 + 1)) = ji7 := (i64_w _).trans hji7
          by_cases c8 : 0 ≤ (ji7)
          · rw [if_pos c8] at H
            have c8b0 : decide (0 ≤ (ji7)) = true := decide_eq_true c8
            clear c8
            by_cases c9 : (ji7) < (l0.length : Int)
            · rw [if_pos c9] at H
              have c9b0 : decide ((ji7) < (l0.length : Int)) = true := decide_eq_true c9
              clear c9
              by_cases c10 : (rd l0 (ji7)) = 108
              · rw [if_pos c10] at H
                have c10b0 : ((rd l0 (ji7)) == 108) = true := beq_iff_eq.mpr c10
                have c10b1 : ((rd l0 (ji7)) != 108) = false := bne_eq_false_iff_eq.mpr c10
                clear c10
                obtain ⟨ji11, hji11⟩ : ∃ j_ : Int, (wrap64 (a1 + 2)) = j_ := ⟨_, rfl⟩
                replace H : (if 0 ≤ (ji11) then (if (ji11) < (l0.length : Int) then (if (rd l0 (ji11)) = 108 then (some (wrap64 (a1 + 3), true)) else (some (a1, false))) else (none)) else (none)) = some (r1, r2) := by first | (rw [hji11] at H; exact H) | (simp only [hji11] at H ⊢; exact H)
                have hji11w : (IntKind.i64.wrap (a1 + 2)) = ji11 := (i64_w _).trans hji11
                by_cases c12 : 0 ≤ (ji11)
                · rw [if_pos c12] at H
                  have c12b0 : decide (0 ≤ (ji11)) = true := decide_eq_true c12
                  clear c12
                  by_cases c13 : (ji11) < (l0.length : Int)
                  · rw [if_pos c13] at H
                    have c13b0 : decide ((ji11) < (l0.length : Int)) = true := decide_eq_true c13
                    clear c13
                    by_cases c14 : (rd l0 (ji11)) = 108
                    · rw [if_pos c14] at H
                      have c14b0 : ((rd l0 (ji11)) == 108) = true := beq_iff_eq.mpr c14
                      have c14b1 : ((rd l0 (ji11)) != 108) = false := bne_eq_false_iff_eq.mpr c14
                      clear c14
                      simp only [Option.some.injEq, Prod.mk.injEq] at H
                      obtain ⟨rfl, rfl⟩ := H
                      have p318 : 0 ≤ (a1 : Int) := of_decide_eq_true (by first | (with_reducible assumption) | assumption)
                      have q318 : a1 < (l0.length : Int) := of_decide_eq_true (by first | (with_reducible assumption) | assumption)
                      obtain ⟨ad318, e318, hx318_0⟩ := Kd.at_int HR0.out a1 p318 q318
                      cases e318
                      replace p318 := eq_true p318
                      replace q318 := eq_true q318
                      have p319 : 0 ≤ ((ji7) : Int) := of_decide_eq_true (by first | (with_reducible assumption) | assumption)
                      have q319 : (ji7) < (l0.length : Int) := of_decide_eq_true (by first | (with_reducible assumption) | assumption)
                      obtain ⟨ad319, e319, hx319_0⟩ := Kd.at_int HR0.out (ji7) p319 q319
                      obtain rfl : ad318 = ad319 := (by injection e319)
                      replace p319 := eq_true p319
                      replace q319 := eq_true q319
                      have p320 : 0 ≤ ((ji11) : Int) := of_decide_eq_true (by first | (with_reducible assumption) | assumption)
                      have q320 : (ji11) < (l0.length : Int) := of_decide_eq_true (by first | (with_reducible assumption) | assumption)
                      obtain ⟨ad320, e320, hx320_0⟩ := Kd.at_int HR0.out (ji11) p320 q320
                      obtain rfl : ad318 = ad320 := (by injection e320)
                      replace p320 := eq_true p320
                      replace q320 := eq_true q320
                      go_enter Try.func31, Try.ntmps31
                      go_wp2
                      go_ret2
                      exact ⟨by first | rfl | (simp; done) | (simp only [← hji7, ← hji11] <;> (first | rfl | (simp; done))) | (simp [*]; done) | (simp only [*]; done), by repeat (first | exact Drawn0.refl _ | apply Drawn0.step)⟩
                    · rw [if_neg c14] at H
                      have c14b0 : ((rd l0 (ji11)) == 108) = false := beq_eq_false_iff_ne.mpr c14
                      have c14b1 : ((rd l0 (ji11)) != 108) = true := bne_iff_ne.mpr c14
                      simp only [Option.some.injEq, Prod.mk.injEq] at H
                      obtain ⟨rfl, rfl⟩ := H
                      have p318 : 0 ≤ (a1 : Int) := of_decide_eq_true (by first | (with_reducible assumption) | assumption)
                      have q318 : a1 < (l0.length : Int) := of_decide_eq_true (by first | (with_reducible assumption) | assumption)
                      obtain ⟨ad318, e318, hx318_0⟩ := Kd.at_int HR0.out a1 p318 q318
                      cases e318
                      replace p318 := eq_true p318
                      replace q318 := eq_true q318
                      have p319 : 0 ≤ ((ji7) : Int) := of_decide_eq_true (by first | (with_reducible assumption) | assumption)
                      have q319 : (ji7) < (l0.length : Int) := of_decide_eq_true (by first | (with_reducible assumption) | assumption)
                      obtain ⟨ad319, e319, hx319_0⟩ := Kd.at_int HR0.out (ji7) p319 q319
                      obtain rfl : ad318 = ad319 := (by injection e319)
                      replace p319 := eq_true p319
                      replace q319 := eq_true q319
                      have p320 : 0 ≤ ((ji11) : Int) := of_decide_eq_true (by first | (with_reducible assumption) | assumption)
                      have q320 : (ji11) < (l0.length : Int) := of_decide_eq_true (by first | (with_reducible assumption) | assumption)
                      obtain ⟨ad320, e320, hx320_0⟩ := Kd.at_int HR0.out (ji11) p320 q320
                      obtain rfl : ad318 = ad320 := (by injection e320)
                      replace p320 := eq_true p320
                      replace q320 := eq_true q320
                      go_enter Try.func31, Try.ntmps31
                      go_wp2
                      go_ret2
                      exact ⟨by first | rfl | (simp; done) | (simp only [← hji7, ← hji11] <;> (first | rfl | (simp; done))) | (simp [*]; done) | (simp only [*]; done), by repeat (first | exact Drawn0.refl _ | apply Drawn0.step)⟩
                  · rw [if_neg c13] at H
                    exact absurd H (by simp)
                · rw [if_neg c12] at H
                  exact absurd H (by simp)
              · rw [if_neg c10] at H
                have c10b0 : ((rd l0 (ji7)) == 108) = false := beq_eq_false_iff_ne.mpr c10
                have c10b1 : ((rd l0 (ji7)) != 108) = true := bne_iff_ne.mpr c10
                simp only [Option.some.injEq, Prod.mk.injEq] at H
                obtain ⟨rfl, rfl⟩ := H
                have p318 : 0 ≤ (a1 : Int) := of_decide_eq_true (by first | (with_reducible assumption) | assumption)
                have q318 : a1 < (l0.length : Int) := of_decide_eq_true (by first | (with_reducible assumption) | assumption)
                obtain ⟨ad318, e318, hx318_0⟩ := Kd.at_int HR0.out a1 p318 q318
                cases e318
                replace p318 := eq_true p318
                replace q318 := eq_true q318
                have p319 : 0 ≤ ((ji7) : Int) := of_decide_eq_true (by first | (with_reducible assumption) | assumption)
                have q319 : (ji7) < (l0.length : Int) := of_decide_eq_true (by first | (with_reducible assumption) | assumption)
                obtain ⟨ad319, e319, hx319_0⟩ := Kd.at_int HR0.out (ji7) p319 q319
                obtain rfl : ad318 = ad319 := (by injection e319)
                replace p319 := eq_true p319
                replace q319 := eq_true q319
                go_enter Try.func31, Try.ntmps31
                go_wp2
                go_ret2
                exact ⟨by first | rfl | (simp; done) | (simp only [← hji7] <;> (first | rfl | (simp; done))) | (simp [*]; done) | (simp only [*]; done), by repeat (first | exact Drawn0.refl _ | apply Drawn0.step)⟩
            · rw [if_neg c9] at H
              exact absurd H (by simp)
          · rw [if_neg c8] at H
            exact absurd H (by simp)
        · rw [if_neg c6] at H
          have c6b0 : ((rd l0 a1) == 117) = false := beq_eq_false_iff_ne.mpr c6
          have c6b1 : ((rd l0 a1) != 117) = true := bne_iff_ne.mpr c6
          simp only [Option.some.injEq, Prod.mk.injEq] at H
          obtain ⟨rfl, rfl⟩ := H
          have p318 : 0 ≤ (a1 : Int) := of_decide_eq_true (by first | (with_reducible assumption) | assumption)
          have q318 : a1 < (l0.length : Int) := of_decide_eq_true (by first | (with_reducible assumption) | assumption)
          obtain ⟨ad318, e318, hx318_0⟩ := Kd.at_int HR0.out a1 p318 q318
          cases e318
          replace p318 := eq_true p318
          replace q318 := eq_true q318
          go_enter Try.func31, Try.ntmps31
          go_wp2
          go_ret2
          exact ⟨by first | rfl | (simp; done) | (simp [*]; done), by repeat (first | exact Drawn0.refl _ | apply Drawn0.step)⟩
      · rw [if_neg c5] at H
        exact absurd H (by simp)
    · rw [if_neg c4] at H
      exact absurd H (by simp)
  · rw [if_neg c3] at H
    have c3b0 : decide ((wrap64 (a1 + 3)) ≤ (l0.length : Int)) = false := decide_eq_false c3
    clear c3
    simp only [Option.some.injEq, Prod.mk.injEq] at H
    obtain ⟨rfl, rfl⟩ := H
    go_enter Try.func31, Try.ntmps31
    go_wp2
    go_ret2
    exact ⟨by first | rfl | (simp; done) | (simp [*]; done), by repeat (first | exact Drawn0.refl _ | apply Drawn0.step)⟩

end Go.Proofs.Ytmbengbkeelpaaa.PFnGjIfValid
