-- Written for this claim by this session's own program (wip/xprint).
import Derived.Test.YtmbengbkeelpaaaPFnGjIfValidx0
import Derived.Test.YtmbengbkeelpaaaPFnGjIfValidx5
import Derived.Test.YtmbengbkeelpaaaPFnGjIfValidx9
import Derived.Test.YtmbengbkeelpaaaPFnGjIfValidx11
namespace Go.Proofs.Ytmbengbkeelpaaa.PFnGjIfValid
open Go.RowKit Go.Proofs.YtmbengbkeelpaaaW.PrintWords Go.Proofs.YtmbengbkeelpaaaW.PrintLast Go.Proofs.YtmbengbkeelpaaaW.PrintMore
attribute [local go_sem] max2_int min2_int max_two min_two max_three min_three max_four min_four   -- for this text's walks alone
set_option linter.unusedVariables false
set_option linter.unusedSimpArgs false

/-! ### gjson_validpayload: function 22 -/
mutual
def gjson_validpayload.l0 : Nat → List Int → Int → Option (Int × Bool)
  | 0, _, _ => none
  | k + 1, x0, x1 => if x1 < (x0.length : Int) then (if 0 ≤ x1 then (if (rd x0 x1) = 32 then (gjson_validpayload.j1 k x0 x1 ((rd x0 x1) == 32)) else (if (rd x0 x1) = 9 then (gjson_validpayload.j1 k x0 x1 ((rd x0 x1) == 9)) else (if (rd x0 x1) = 10 then (gjson_validpayload.j1 k x0 x1 ((rd x0 x1) == 10)) else (gjson_validpayload.j1 k x0 x1 ((rd x0 x1) == 13))))) else (none)) else (some (x1, false))
def gjson_validpayload.j1 : Nat → List Int → Int → Bool → Option (Int × Bool)
  | 0, _, _, _ => none
  | k + 1, x0, x1, x42 => if x42 = true then (gjson_validpayload.l0 k x0 (wrap64 (x1 + 1))) else ((gjson_validany.f k x0 x1).bind fun bt354 => (if bt354.2 = true then (gjson_validpayload.l1 k x0 bt354.1) else (some (bt354.1, false))))
def gjson_validpayload.l1 : Nat → List Int → Int → Option (Int × Bool)
  | 0, _, _ => none
  | k + 1, x0, x1 => if x1 < (x0.length : Int) then (if 0 ≤ x1 then (if (rd x0 x1) = 32 then (gjson_validpayload.l1 k x0 (wrap64 (x1 + 1))) else (if (rd x0 x1) = 9 then (gjson_validpayload.l1 k x0 (wrap64 (x1 + 1))) else (if (rd x0 x1) = 10 then (gjson_validpayload.l1 k x0 (wrap64 (x1 + 1))) else (if (rd x0 x1) = 13 then (gjson_validpayload.l1 k x0 (wrap64 (x1 + 1))) else (some (x1, false)))))) else (none)) else (some (x1, true))
end
def gjson_validpayload.f (k : Nat) (l0 : List Int) (a1 : Int) : Option (Int × Bool) := gjson_validpayload.l0 k l0 a1
theorem gjson_validpayload.mono_l : ∀ k, (∀ y0 y1, LeO (gjson_validpayload.l0 k y0 y1) (gjson_validpayload.l0 (k + 1) y0 y1)) ∧ (∀ y0 y1 y2, LeO (gjson_validpayload.j1 k y0 y1 y2) (gjson_validpayload.j1 (k + 1) y0 y1 y2)) ∧ (∀ y0 y1, LeO (gjson_validpayload.l1 k y0 y1) (gjson_validpayload.l1 (k + 1) y0 y1))
  | 0 => ⟨fun _ _ r h => by simp [gjson_validpayload.l0] at h, fun _ _ _ r h => by simp [gjson_validpayload.j1] at h, fun _ _ r h => by simp [gjson_validpayload.l1] at h⟩
  | k + 1 => by
    obtain ⟨ih0, ih1, ih2⟩ := gjson_validpayload.mono_l k
    refine ⟨?_, ?_, ?_⟩
    · intro y0 y1
      unfold gjson_validpayload.l0
      repeat' first
      | (with_reducible exact ih0 _ _)
      | (with_reducible exact ih1 _ _ _)
      | (with_reducible exact ih2 _ _)
      | (with_reducible exact gjson_validany.mono _ _ _)
      | (with_reducible exact LeO.refl _)
      | (with_reducible exact LeO.none _)
      | (with_reducible refine LeO.ite ?_ ?_)
      | (with_reducible refine LeO.bind ?_ (fun _ => ?_))
      | exact ih0 _ _
      | exact ih1 _ _ _
      | exact ih2 _ _
      | exact gjson_validany.mono _ _ _
      | exact LeO.none _
      | refine LeO.ite ?_ ?_
      | refine LeO.bind ?_ (fun _ => ?_)
    · intro y0 y1 y2
      unfold gjson_validpayload.j1
      repeat' first
      | (with_reducible exact ih0 _ _)
      | (with_reducible exact ih1 _ _ _)
      | (with_reducible exact ih2 _ _)
      | (with_reducible exact gjson_validany.mono _ _ _)
      | (with_reducible exact LeO.refl _)
      | (with_reducible exact LeO.none _)
      | (with_reducible refine LeO.ite ?_ ?_)
      | (with_reducible refine LeO.bind ?_ (fun _ => ?_))
      | exact ih0 _ _
      | exact ih1 _ _ _
      | exact ih2 _ _
      | exact gjson_validany.mono _ _ _
      | exact LeO.none _
      | refine LeO.ite ?_ ?_
      | refine LeO.bind ?_ (fun _ => ?_)
    · intro y0 y1
      unfold gjson_validpayload.l1
      repeat' first
      | (with_reducible exact ih0 _ _)
      | (with_reducible exact ih1 _ _ _)
      | (with_reducible exact ih2 _ _)
      | (with_reducible exact gjson_validany.mono _ _ _)
      | (with_reducible exact LeO.refl _)
      | (with_reducible exact LeO.none _)
      | (with_reducible refine LeO.ite ?_ ?_)
      | (with_reducible refine LeO.bind ?_ (fun _ => ?_))
      | exact ih0 _ _
      | exact ih1 _ _ _
      | exact ih2 _ _
      | exact gjson_validany.mono _ _ _
      | exact LeO.none _
      | refine LeO.ite ?_ ?_
      | refine LeO.bind ?_ (fun _ => ?_)
theorem gjson_validpayload.mono : ∀ a0 a1 k, LeO (gjson_validpayload.f k a0 a1) (gjson_validpayload.f (k + 1) a0 a1) := by
  intro a0 a1 k
  obtain ⟨ih0, ih1, ih2⟩ := gjson_validpayload.mono_l k
  unfold gjson_validpayload.f
  repeat' first
      | (with_reducible exact ih0 _ _)
      | (with_reducible exact ih1 _ _ _)
      | (with_reducible exact ih2 _ _)
      | (with_reducible exact gjson_validany.mono _ _ _)
      | (with_reducible exact LeO.refl _)
      | (with_reducible exact LeO.none _)
      | (with_reducible refine LeO.ite ?_ ?_)
      | (with_reducible refine LeO.bind ?_ (fun _ => ?_))
      | exact ih0 _ _
      | exact ih1 _ _ _
      | exact ih2 _ _
      | exact gjson_validany.mono _ _ _
      | exact LeO.none _
      | refine LeO.ite ?_ ?_
      | refine LeO.bind ?_ (fun _ => ?_)
set_option maxHeartbeats 8000000 in
set_option maxRecDepth 100000 in
theorem gjson_validpayload.calls (k : Nat) (A0 : Option Addr) (c0 : Nat) (l0 : List Int) (a1 : Int) (r1 : Int) (r2 : Bool) (w : World) (hr0 : Kd.C (Kd.int .u8) w A0 l0.length l0) (hc0 : l0.length ≤ c0) (h : gjson_validpayload.f k l0 a1 = some (r1, r2)) :
    Calls Try.prog 22 #[.slice A0 l0.length c0, .int .i64 a1] w fun e w' => e = .returned (.tuple #[.int .i64 r1, .bool r2]) ∧ Below w.heap.size w w' := by
  have HR0 := Aside0.mk hr0
  have HC0 := Aside0.mk hc0
  clear hr0 hc0
  have HB := Aside0.mk (Below.refl w.heap.size w)
  have H : (gjson_validpayload.l0 k l0 a1) = some (r1, r2) := h
  clear h
  have H' := Aside0.mk H
  clear H
  go_enter Try.func22, Try.ntmps22
  go_wp2
  (try simp only [Act.put, List.setIfInBounds_toArray, List.set_cons_zero, List.set_cons_succ])
  go_loopg [1] k (fun kq v1 w' => ∃ (x1_1 : Int), v1 = .int .i64 x1_1 ∧ Aside0 (gjson_validpayload.l0 kq l0 x1_1 = some (r1, r2)) ∧ Aside0 (kq ≤ k) ∧ Aside0 (Below w.heap.size w w'))
  case atStart => exact ⟨(a1), (by first | rfl | (simp; done) | (simp [*]; done)), H', ⟨Nat.le_refl _⟩, ⟨by repeat (first | (with_reducible first | exact HB.out | apply below_alloc | apply pw_below_drewN | apply below_drew1) | exact HB.out)⟩⟩
  case round =>
    clear H'
    try clear c2
    try clear p2
    obtain ⟨x1_1, rfl, HA, HK1, HB⟩ := hrel
    cases gk with
    | zero => exact absurd HA.out (by simp [gjson_validpayload.l0])
    | succ k1 =>
      have H := HA.out
      clear HA
      simp only [gjson_validpayload.l0] at H
      by_cases c3 : x1_1 < (l0.length : Int)
      · rw [if_pos c3] at H
        have c3b0 : decide (x1_1 < (l0.length : Int)) = true := decide_eq_true c3
        clear c3
        by_cases c4 : 0 ≤ x1_1
        · rw [if_pos c4] at H
          have c4b0 : decide (0 ≤ x1_1) = true := decide_eq_true c4
          clear c4
          have HC5 := Aside0.mk H
          clear H
          have p353 : 0 ≤ (x1_1 : Int) := of_decide_eq_true (by first | (with_reducible assumption) | assumption)
          have q353 : x1_1 < (l0.length : Int) := of_decide_eq_true (by first | (with_reducible assumption) | assumption)
          obtain ⟨ad353, e353, hx353_0⟩ := Kd.at_int HR0.out x1_1 p353 q353
          cases e353
          replace hx353_0 := (HB.out.cell (World.block_lt_of_cell? w _ hx353_0)).trans hx353_0
          replace p353 := eq_true p353
          replace q353 := eq_true q353
          go_upto_if 42 with (fail)
          go_cut [42] (fun v42 wc => ∃ (kq : Nat) (x42_4 : Bool), v42 = .bool x42_4 ∧ Aside0 (gjson_validpayload.j1 kq l0 x1_1 x42_4 = some (r1, r2)) ∧ Aside0 (kq ≤ k1) ∧ Aside0 (Below w.heap.size w wc))
          case first =>
            have H := HC5.out
            clear HC5
            by_cases c6 : (rd l0 x1_1) = 32
            · rw [if_pos c6] at H
              have c6b0 : ((rd l0 x1_1) == 32) = true := beq_iff_eq.mpr c6
              have c6b1 : ((rd l0 x1_1) != 32) = false := bne_eq_false_iff_eq.mpr c6
              clear c6
              (first | rw [c6b0] | (simp only [i64_w, i32_w]; rw [c6b0]) | skip)
              have H' := Aside0.mk H
              clear H
              go_wp2
              go_meet
              case rel => exact ⟨_, (((rd l0 x1_1) == 32)), (by first | rfl | (simp; done) | (simp [*]; done)), H', ⟨by have := HK1.out; first | omega | exact Nat.le_refl _⟩, ⟨by repeat (first | (with_reducible first | exact HB.out | apply below_alloc | apply pw_below_drewN | apply below_drew1) | exact HB.out)⟩⟩
            · rw [if_neg c6] at H
              have c6b0 : ((rd l0 x1_1) == 32) = false := beq_eq_false_iff_ne.mpr c6
              have c6b1 : ((rd l0 x1_1) != 32) = true := bne_iff_ne.mpr c6
              (first | rw [c6b0] | (simp only [i64_w, i32_w]; rw [c6b0]) | skip)
              by_cases c7 : (rd l0 x1_1) = 9
              · rw [if_pos c7] at H
                have c7b0 : ((rd l0 x1_1) == 9) = true := beq_iff_eq.mpr c7
                have c7b1 : ((rd l0 x1_1) != 9) = false := bne_eq_false_iff_eq.mpr c7
                clear c7
                have H' := Aside0.mk H
                clear H
                go_wp2
                go_meet
                case rel => exact ⟨_, (((rd l0 x1_1) == 9)), (by first | rfl | (simp; done) | (simp [*]; done)), H', ⟨by have := HK1.out; first | omega | exact Nat.le_refl _⟩, ⟨by repeat (first | (with_reducible first | exact HB.out | apply below_alloc | apply pw_below_drewN | apply below_drew1) | exact HB.out)⟩⟩
              · rw [if_neg c7] at H
                have c7b0 : ((rd l0 x1_1) == 9) = false := beq_eq_false_iff_ne.mpr c7
                have c7b1 : ((rd l0 x1_1) != 9) = true := bne_iff_ne.mpr c7
                by_cases c8 : (rd l0 x1_1) = 10
                · rw [if_pos c8] at H
                  have c8b0 : ((rd l0 x1_1) == 10) = true := beq_iff_eq.mpr c8
                  have c8b1 : ((rd l0 x1_1) != 10) = false := bne_eq_false_iff_eq.mpr c8
                  clear c8
                  have H' := Aside0.mk H
                  clear H
                  go_wp2
                  go_meet
                  case rel => exact ⟨_, (((rd l0 x1_1) == 10)), (by first | rfl | (simp; done) | (simp [*]; done)), H', ⟨by have := HK1.out; first | omega | exact Nat.le_refl _⟩, ⟨by repeat (first | (with_reducible first | exact HB.out | apply below_alloc | apply pw_below_drewN | apply below_drew1) | exact HB.out)⟩⟩
                · rw [if_neg c8] at H
                  have c8b0 : ((rd l0 x1_1) == 10) = false := beq_eq_false_iff_ne.mpr c8
                  have c8b1 : ((rd l0 x1_1) != 10) = true := bne_iff_ne.mpr c8
                  have H' := Aside0.mk H
                  clear H
                  go_wp2
                  go_meet
                  case rel => exact ⟨_, (((rd l0 x1_1) == 13)), (by first | rfl | (simp; done) | (simp [*]; done)), H', ⟨by have := HK1.out; first | omega | exact Nat.le_refl _⟩, ⟨by repeat (first | (with_reducible first | exact HB.out | apply below_alloc | apply pw_below_drewN | apply below_drew1) | exact HB.out)⟩⟩
          case rest =>
            clear HC5
            try clear c2
            try clear p2
            try clear c3
            try clear c3b0
            try clear p3
            try clear q3
            try clear hx3
            try clear c4
            try clear c4b0
            try clear c6
            try clear c6b0
            try clear c6b1
            try clear c7
            try clear c7b0
            try clear c7b1
            try clear c8
            try clear c8b0
            try clear c8b1
            try clear hx353_0
            try clear p2
            try clear p353
            try clear q353
            obtain ⟨kq, x42_4, rfl, HA, HJ4, HB⟩ := hcut
            cases kq with
            | zero => exact absurd HA.out (by simp [gjson_validpayload.j1])
            | succ kj4 =>
              have H := HA.out
              clear HA
              simp only [gjson_validpayload.j1] at H
              by_cases c9 : x42_4 = true
              · subst c9
                have H1 : (gjson_validpayload.l0 kj4 l0 (wrap64 (x1_1 + 1))) = some (r1, r2) := by rw [if_pos rfl] at H; exact H
                clear H
                have H := H1
                clear H1
                have H' := Aside0.mk H
                clear H
                go_wp2
                go_roundg kj4
                case measure => have := HK1.out; have := HJ4.out; omega
                case rel => exact ⟨(wrap64 (x1_1 + 1)), (by first | rfl | (simp; done) | (simp [*]; done)), H', ⟨by have := HK1.out; have := HJ4.out; omega⟩, ⟨by repeat (first | (with_reducible first | exact HB.out | apply below_alloc | apply pw_below_drewN | apply below_drew1) | exact HB.out)⟩⟩
              · replace c9 := Bool.eq_false_iff.mpr c9
                subst c9
                have H1 : ((gjson_validany.f kj4 l0 x1_1).bind fun bt354 => (if bt354.2 = true then (gjson_validpayload.l1 kj4 l0 bt354.1) else (some (bt354.1, false)))) = some (r1, r2) := by rw [if_neg (show ¬ (false = true) by decide)] at H; exact H
                clear H
                have H := H1
                clear H1
                replace H := Option.bind_eq_some_iff.mp H
                obtain ⟨⟨t354, t355⟩, A100, H⟩ := H
                replace H : (if t355 = true then (gjson_validpayload.l1 kj4 l0 t354) else (some (t354, false))) = some (r1, r2) := H
                have A10 := Aside0.mk A100
                clear A100
                by_cases c11 : t355 = true
                · subst c11
                  have H1 : (gjson_validpayload.l1 kj4 l0 t354) = some (r1, r2) := by rw [if_pos rfl] at H; exact H
                  clear H
                  have H := H1
                  clear H1
                  have H' := Aside0.mk H
                  clear H
                  go_wp2_with (first | ((with_reducible refine gate_callee (f := 24) rfl ?_); refine goesL_ (some 19) rfl rfl Try.func24 (by kernel_rfl) rfl #[.slice (some ad353) l0.length c0, .int .i64 x1_1] rfl (by (try simp only [List.map_toArray, List.map_cons, List.map_nil]); first | done | rfl | (simp only [List.length_drop, List.length_take]; rfl)) ?_; (with_reducible refine (gjson_validany.calls kj4 _ _ l0 x1_1 t354 true _ ?side1 ?side2 A10.out).mono ?_); (case side1 => repeat (first | exact (Kd.C_below HR0.out HB.out) | (with_reducible refine Kd.C_alloc ?_ _) | (with_reducible refine Kd.C_drewN ?_ _) | (with_reducible refine Kd.C_drew ?_))); (case side2 => exact HC0.out); rintro e w12 ⟨rfl, hb⟩; refine ⟨_, rfl, ?_⟩; have n0_ := Aside0.mk (below_step (by repeat (first | (with_reducible first | exact HB.out | apply below_alloc | apply pw_below_drewN | apply below_drew1) | exact HB.out)) hb); clear HB; have HB := n0_; clear n0_; (try clear hb); (try clear hb2); (try clear hk); (try clear hi)))
                  (try simp only [Act.put, List.setIfInBounds_toArray, List.set_cons_zero, List.set_cons_succ])
                  go_loopg [1] kj4 (fun kq v1 w' => ∃ (x1_3 : Int), v1 = .int .i64 x1_3 ∧ Aside0 (gjson_validpayload.l1 kq l0 x1_3 = some (r1, r2)) ∧ Aside0 (kq ≤ kj4) ∧ Aside0 (Below w.heap.size w w'))
                  case atStart => exact ⟨(t354), (by first | rfl | (simp; done) | (simp [*]; done)), H', ⟨Nat.le_refl _⟩, ⟨by repeat (first | (with_reducible first | exact HB.out | apply below_alloc | apply pw_below_drewN | apply below_drew1) | exact HB.out)⟩⟩
                  case round =>
                    clear H'
                    try clear c1
                    try clear c2
                    try clear p2
                    try clear c3
                    try clear c3b0
                    try clear p3
                    try clear q3
                    try clear hx3
                    try clear c4
                    try clear c4b0
                    try clear c6
                    try clear c6b0
                    try clear c6b1
                    try clear p6
                    try clear c7
                    try clear c7b0
                    try clear c7b1
                    try clear c8
                    try clear c8b0
                    try clear c8b1
                    try clear c9
                    try clear c11
                    try clear hx353_0
                    try clear p2
                    try clear p3
                    try clear p353
                    try clear q3
                    try clear q353
                    obtain ⟨x1_3, rfl, HA, HK3, HB⟩ := hrel
                    cases gk with
                    | zero => exact absurd HA.out (by simp [gjson_validpayload.l1])
                    | succ k3 =>
                      have H := HA.out
                      clear HA
                      simp only [gjson_validpayload.l1] at H
                      by_cases c13 : x1_3 < (l0.length : Int)
                      · rw [if_pos c13] at H
                        have c13b0 : decide (x1_3 < (l0.length : Int)) = true := decide_eq_true c13
                        clear c13
                        by_cases c14 : 0 ≤ x1_3
                        · rw [if_pos c14] at H
                          have c14b0 : decide (0 ≤ x1_3) = true := decide_eq_true c14
                          clear c14
                          by_cases c15 : (rd l0 x1_3) = 32
                          · rw [if_pos c15] at H
                            have c15b0 : ((rd l0 x1_3) == 32) = true := beq_iff_eq.mpr c15
                            have c15b1 : ((rd l0 x1_3) != 32) = false := bne_eq_false_iff_eq.mpr c15
                            clear c15
                            have H' := Aside0.mk H
                            clear H
                            have p356 : 0 ≤ (x1_3 : Int) := of_decide_eq_true (by first | (with_reducible assumption) | assumption)
                            have q356 : x1_3 < (l0.length : Int) := of_decide_eq_true (by first | (with_reducible assumption) | assumption)
                            obtain ⟨ad356, e356, hx356_0⟩ := Kd.at_int HR0.out x1_3 p356 q356
                            obtain rfl : ad353 = ad356 := (by injection e356)
                            replace hx356_0 := (HB.out.cell (World.block_lt_of_cell? w _ hx356_0)).trans hx356_0
                            replace p356 := eq_true p356
                            replace q356 := eq_true q356
                            go_wp2
                            go_roundg k3
                            case measure => have := HK1.out; have := HJ4.out; have := HK3.out; omega
                            case rel => exact ⟨(wrap64 (x1_3 + 1)), (by first | rfl | (simp; done) | (simp [*]; done)), H', ⟨by have := HK1.out; have := HJ4.out; have := HK3.out; omega⟩, ⟨by repeat (first | (with_reducible first | exact HB.out | apply below_alloc | apply pw_below_drewN | apply below_drew1) | exact HB.out)⟩⟩
                          · rw [if_neg c15] at H
                            have c15b0 : ((rd l0 x1_3) == 32) = false := beq_eq_false_iff_ne.mpr c15
                            have c15b1 : ((rd l0 x1_3) != 32) = true := bne_iff_ne.mpr c15
                            by_cases c16 : (rd l0 x1_3) = 9
                            · rw [if_pos c16] at H
                              have c16b0 : ((rd l0 x1_3) == 9) = true := beq_iff_eq.mpr c16
                              have c16b1 : ((rd l0 x1_3) != 9) = false := bne_eq_false_iff_eq.mpr c16
                              clear c16
                              have H' := Aside0.mk H
                              clear H
                              have p356 : 0 ≤ (x1_3 : Int) := of_decide_eq_true (by first | (with_reducible assumption) | assumption)
                              have q356 : x1_3 < (l0.length : Int) := of_decide_eq_true (by first | (with_reducible assumption) | assumption)
                              obtain ⟨ad356, e356, hx356_0⟩ := Kd.at_int HR0.out x1_3 p356 q356
                              obtain rfl : ad353 = ad356 := (by injection e356)
                              replace hx356_0 := (HB.out.cell (World.block_lt_of_cell? w _ hx356_0)).trans hx356_0
                              replace p356 := eq_true p356
                              replace q356 := eq_true q356
                              go_wp2
                              go_roundg k3
                              case measure => have := HK1.out; have := HJ4.out; have := HK3.out; omega
                              case rel => exact ⟨(wrap64 (x1_3 + 1)), (by first | rfl | (simp; done) | (simp [*]; done)), H', ⟨by have := HK1.out; have := HJ4.out; have := HK3.out; omega⟩, ⟨by repeat (first | (with_reducible first | exact HB.out | apply below_alloc | apply pw_below_drewN | apply below_drew1) | exact HB.out)⟩⟩
                            · rw [if_neg c16] at H
                              have c16b0 : ((rd l0 x1_3) == 9) = false := beq_eq_false_iff_ne.mpr c16
                              have c16b1 : ((rd l0 x1_3) != 9) = true := bne_iff_ne.mpr c16
                              by_cases c17 : (rd l0 x1_3) = 10
                              · rw [if_pos c17] at H
                                have c17b0 : ((rd l0 x1_3) == 10) = true := beq_iff_eq.mpr c17
                                have c17b1 : ((rd l0 x1_3) != 10) = false := bne_eq_false_iff_eq.mpr c17
                                clear c17
                                have H' := Aside0.mk H
                                clear H
                                have p356 : 0 ≤ (x1_3 : Int) := of_decide_eq_true (by first | (with_reducible assumption) | assumption)
                                have q356 : x1_3 < (l0.length : Int) := of_decide_eq_true (by first | (with_reducible assumption) | assumption)
                                obtain ⟨ad356, e356, hx356_0⟩ := Kd.at_int HR0.out x1_3 p356 q356
                                obtain rfl : ad353 = ad356 := (by injection e356)
                                replace hx356_0 := (HB.out.cell (World.block_lt_of_cell? w _ hx356_0)).trans hx356_0
                                replace p356 := eq_true p356
                                replace q356 := eq_true q356
                                go_wp2
                                go_roundg k3
                                case measure => have := HK1.out; have := HJ4.out; have := HK3.out; omega
                                case rel => exact ⟨(wrap64 (x1_3 + 1)), (by first | rfl | (simp; done) | (simp [*]; done)), H', ⟨by have := HK1.out; have := HJ4.out; have := HK3.out; omega⟩, ⟨by repeat (first | (with_reducible first | exact HB.out | apply below_alloc | apply pw_below_drewN | apply below_drew1) | exact HB.out)⟩⟩
                              · rw [if_neg c17] at H
                                have c17b0 : ((rd l0 x1_3) == 10) = false := beq_eq_false_iff_ne.mpr c17
                                have c17b1 : ((rd l0 x1_3) != 10) = true := bne_iff_ne.mpr c17
                                by_cases c18 : (rd l0 x1_3) = 13
                                · rw [if_pos c18] at H
                                  have c18b0 : ((rd l0 x1_3) == 13) = true := beq_iff_eq.mpr c18
                                  have c18b1 : ((rd l0 x1_3) != 13) = false := bne_eq_false_iff_eq.mpr c18
                                  clear c18
                                  have H' := Aside0.mk H
                                  clear H
                                  have p356 : 0 ≤ (x1_3 : Int) := of_decide_eq_true (by first | (with_reducible assumption) | assumption)
                                  have q356 : x1_3 < (l0.length : Int) := of_decide_eq_true (by first | (with_reducible assumption) | assumption)
                                  obtain ⟨ad356, e356, hx356_0⟩ := Kd.at_int HR0.out x1_3 p356 q356
                                  obtain rfl : ad353 = ad356 := (by injection e356)
                                  replace hx356_0 := (HB.out.cell (World.block_lt_of_cell? w _ hx356_0)).trans hx356_0
                                  replace p356 := eq_true p356
                                  replace q356 := eq_true q356
                                  go_wp2
                                  go_roundg k3
                                  case measure => have := HK1.out; have := HJ4.out; have := HK3.out; omega
                                  case rel => exact ⟨(wrap64 (x1_3 + 1)), (by first | rfl | (simp; done) | (simp [*]; done)), H', ⟨by have := HK1.out; have := HJ4.out; have := HK3.out; omega⟩, ⟨by repeat (first | (with_reducible first | exact HB.out | apply below_alloc | apply pw_below_drewN | apply below_drew1) | exact HB.out)⟩⟩
                                · rw [if_neg c18] at H
                                  have c18b0 : ((rd l0 x1_3) == 13) = false := beq_eq_false_iff_ne.mpr c18
                                  have c18b1 : ((rd l0 x1_3) != 13) = true := bne_iff_ne.mpr c18
                                  simp only [Option.some.injEq, Prod.mk.injEq] at H
                                  obtain ⟨rfl, rfl⟩ := H
                                  have p356 : 0 ≤ (x1_3 : Int) := of_decide_eq_true (by first | (with_reducible assumption) | assumption)
                                  have q356 : x1_3 < (l0.length : Int) := of_decide_eq_true (by first | (with_reducible assumption) | assumption)
                                  obtain ⟨ad356, e356, hx356_0⟩ := Kd.at_int HR0.out x1_3 p356 q356
                                  obtain rfl : ad353 = ad356 := (by injection e356)
                                  replace hx356_0 := (HB.out.cell (World.block_lt_of_cell? w _ hx356_0)).trans hx356_0
                                  replace p356 := eq_true p356
                                  replace q356 := eq_true q356
                                  go_wp2
                                  go_ret2
                                  exact ⟨by first | rfl | (simp [errW_none, errW_some] <;> rfl) | (simp [*, errW_none, errW_some] <;> rfl), by repeat (first | (with_reducible first | exact HB.out | apply below_alloc | apply pw_below_drewN | apply below_drew1) | exact HB.out)⟩
                        · rw [if_neg c14] at H
                          exact absurd H (by simp)
                      · rw [if_neg c13] at H
                        have c13b0 : decide (x1_3 < (l0.length : Int)) = false := decide_eq_false c13
                        clear c13
                        simp only [Option.some.injEq, Prod.mk.injEq] at H
                        obtain ⟨rfl, rfl⟩ := H
                        go_wp2
                        go_ret2
                        exact ⟨by first | rfl | (simp [errW_none, errW_some] <;> rfl) | (simp [*, errW_none, errW_some] <;> rfl), by repeat (first | (with_reducible first | exact HB.out | apply below_alloc | apply pw_below_drewN | apply below_drew1) | exact HB.out)⟩
                · replace c11 := Bool.eq_false_iff.mpr c11
                  subst c11
                  have H1 : (some (t354, false)) = some (r1, r2) := by rw [if_neg (show ¬ (false = true) by decide)] at H; exact H
                  clear H
                  have H := H1
                  clear H1
                  simp only [Option.some.injEq, Prod.mk.injEq] at H
                  obtain ⟨rfl, rfl⟩ := H
                  go_wp2_with (first | ((with_reducible refine gate_callee (f := 24) rfl ?_); refine goesL_ (some 19) rfl rfl Try.func24 (by kernel_rfl) rfl #[.slice (some ad353) l0.length c0, .int .i64 x1_1] rfl (by (try simp only [List.map_toArray, List.map_cons, List.map_nil]); first | done | rfl | (simp only [List.length_drop, List.length_take]; rfl)) ?_; (with_reducible refine (gjson_validany.calls kj4 _ _ l0 x1_1 t354 false _ ?side1 ?side2 A10.out).mono ?_); (case side1 => repeat (first | exact (Kd.C_below HR0.out HB.out) | (with_reducible refine Kd.C_alloc ?_ _) | (with_reducible refine Kd.C_drewN ?_ _) | (with_reducible refine Kd.C_drew ?_))); (case side2 => exact HC0.out); rintro e w19 ⟨rfl, hb⟩; refine ⟨_, rfl, ?_⟩; have n0_ := Aside0.mk (below_step (by repeat (first | (with_reducible first | exact HB.out | apply below_alloc | apply pw_below_drewN | apply below_drew1) | exact HB.out)) hb); clear HB; have HB := n0_; clear n0_; (try clear hb); (try clear hb2); (try clear hk); (try clear hi)))
                  go_ret2
                  exact ⟨by first | rfl | (simp [errW_none, errW_some] <;> rfl) | (simp [*, errW_none, errW_some] <;> rfl), by repeat (first | (with_reducible first | exact HB.out | apply below_alloc | apply pw_below_drewN | apply below_drew1) | exact HB.out)⟩
        · rw [if_neg c4] at H
          exact absurd H (by simp)
      · rw [if_neg c3] at H
        have c3b0 : decide (x1_1 < (l0.length : Int)) = false := decide_eq_false c3
        clear c3
        simp only [Option.some.injEq, Prod.mk.injEq] at H
        obtain ⟨rfl, rfl⟩ := H
        go_wp2
        go_ret2
        exact ⟨by first | rfl | (simp [errW_none, errW_some] <;> rfl) | (simp [*, errW_none, errW_some] <;> rfl), by repeat (first | (with_reducible first | exact HB.out | apply below_alloc | apply pw_below_drewN | apply below_drew1) | exact HB.out)⟩

/-! ### gjson_stringBytes: function 23 -/
def gjson_stringBytes.f (a0 : ByteArray) : Option (List Int) := if a0.size ≤ 140737488355328 then (some (bytesOf a0)) else (none)
set_option maxHeartbeats 8000000 in
set_option maxRecDepth 100000 in
theorem gjson_stringBytes.calls (a0 : ByteArray) (r : List Int) (w : World) (h : gjson_stringBytes.f a0 = some r) :
    Calls Try.prog 23 #[.string a0] w fun e w' => ∃ v0_ : Value, e = .returned (v0_) ∧ Kd.V (Kd.int .u8) 5 w' w.heap.size (fun k_ => (w.heap.size ≤ k_)) v0_ r ∧ Below w.heap.size w w' := by
  have HB := Aside0.mk (Below.refl w.heap.size w)
  have H : (if a0.size ≤ 140737488355328 then (some (bytesOf a0)) else (none)) = some r := h
  clear h
  by_cases c2 : a0.size ≤ 140737488355328
  · rw [if_pos c2] at H
    have c2b0 := eq_true c2
    have c2b1 : decide (a0.size ≤ 140737488355328) = true := decide_eq_true c2
    clear c2
    obtain ⟨y357, hy357⟩ : ∃ y_ : List Int, y_ = (bytesOf a0) := ⟨_, rfl⟩
    replace H : (some y357) = some r := by first | (rw [hy357]; with_reducible exact H) | (have H2_ := (Option.bind_some _ _).symm.trans H; rw [hy357]; with_reducible exact H2_) | (have H2_ := (Option.bind_some _ _).symm.trans H; with_reducible exact H2_) | with_reducible exact H | (rw [hy357]; exact H) | exact H
    have Ny357 := Aside0.mk hy357
    clear hy357
    obtain rfl := Option.some.inj H
    go_enter Try.func23, Try.ntmps23
    go_wp2_with (first | ((with_reducible refine gate_dst (N := 4) rfl ?_); refine conv_event (s := a0) (src := 9) (dst := 47) (e := 5) rfl (N := 4) rfl _ rfl rfl Try.underlying9 Try.underlying47 Try.underlying5 (Nat.le_trans (of_decide_eq_true (by first | (with_reducible assumption) | assumption) : a0.size ≤ 140737488355328) (by omega)) ?_; intro v358 w3 ho4 hb; (first | rw [← Ny357.out] at ho4 | (simp only [Int.reduceToNat] at ho4; rw [← Ny357.out] at ho4)); have n0_ := Aside0.mk (Kd.V_lower (Kd.V_mono (ok' := fun k_ => (w.heap.size ≤ k_)) ho4 (fun k_ hk_ => (Nat.le_trans (below_size (by repeat (first | (with_reducible first | exact HB.out | apply below_alloc | apply pw_below_drewN | apply below_drew1) | exact HB.out))) hk_))) (below_size (by repeat (first | (with_reducible first | exact HB.out | apply below_alloc | apply pw_below_drewN | apply below_drew1) | exact HB.out)))); have n1_ := Aside0.mk (below_step (by repeat (first | (with_reducible first | exact HB.out | apply below_alloc | apply pw_below_drewN | apply below_drew1) | exact HB.out)) hb); clear HB; have HO359 := n0_; have HB := n1_; clear n0_ n1_; clear hb ho4))
    go_ret
    exact ⟨_, by first | rfl | (simp [errW_none, errW_some] <;> rfl) | (simp [*, errW_none, errW_some] <;> rfl), by (with_reducible repeat (first | apply Kd.V_alloc | apply Kd.V_drewN | apply Kd.V_drew)); exact HO359.out, by repeat (first | (with_reducible first | exact HB.out | apply below_alloc | apply pw_below_drewN | apply below_drew1) | exact HB.out)⟩
  · rw [if_neg c2] at H
    exact absurd H (by simp)

/-! ### gjson_Valid: function 20 -/
def gjson_Valid.f (k : Nat) (a0 : ByteArray) : Option (Bool) := (gjson_stringBytes.f a0).bind fun t360 => ((gjson_validpayload.f k t360 0).bind fun bt363 => (some bt363.2))
theorem gjson_Valid.mono : ∀ a0 k, LeO (gjson_Valid.f k a0) (gjson_Valid.f (k + 1) a0) := by
  intro a0 k
  unfold gjson_Valid.f
  repeat' first
      | (with_reducible exact gjson_validpayload.mono _ _ _)
      | (with_reducible exact LeO.refl _)
      | (with_reducible exact LeO.none _)
      | (with_reducible refine LeO.ite ?_ ?_)
      | (with_reducible refine LeO.bind ?_ (fun _ => ?_))
      | exact gjson_validpayload.mono _ _ _
      | exact LeO.none _
      | refine LeO.ite ?_ ?_
      | refine LeO.bind ?_ (fun _ => ?_)
set_option maxHeartbeats 8000000 in
set_option maxRecDepth 100000 in
theorem gjson_Valid.calls (k : Nat) (a0 : ByteArray) (r : Bool) (w : World) (h : gjson_Valid.f k a0 = some r) :
    Calls Try.prog 20 #[.string a0] w fun e w' => e = .returned (.bool r) ∧ Below w.heap.size w w' := by
  have HB := Aside0.mk (Below.refl w.heap.size w)
  have H : ((gjson_stringBytes.f a0).bind fun t360 => ((gjson_validpayload.f k t360 0).bind fun bt363 => (some bt363.2))) = some r := h
  clear h
  replace H := Option.bind_eq_some_iff.mp H
  obtain ⟨t360, A20, H⟩ := H
  replace H : ((gjson_validpayload.f k t360 0).bind fun bt363 => (some bt363.2)) = some r := H
  have A2 := Aside0.mk A20
  clear A20
  replace H := Option.bind_eq_some_iff.mp H
  obtain ⟨⟨t363, t364⟩, A30, H⟩ := H
  replace H : (some t364) = some r := H
  have A3 := Aside0.mk A30
  clear A30
  obtain rfl := Option.some.inj H
  go_enter Try.func20, Try.ntmps20
  go_wp2_with (first | ((with_reducible refine gate_callee (f := 23) rfl ?_); refine goesL_ (some 7) rfl rfl Try.func23 (by kernel_rfl) rfl #[.string a0] rfl (by (try simp only [List.map_toArray, List.map_cons, List.map_nil]); first | done | rfl | (simp only [List.length_drop, List.length_take]; rfl)) ?_; (with_reducible refine (gjson_stringBytes.calls a0 t360 _ A2.out).mono ?_); rintro e w4 ⟨v361, rfl, ho0, hb⟩; refine ⟨_, rfl, ?_⟩; have n0_ := Aside0.mk (Kd.V_lower (Kd.V_mono (ok' := fun k_ => True) ho0 (fun k_ hk_ => trivial)) (below_size (by repeat (first | (with_reducible first | exact HB.out | apply below_alloc | apply pw_below_drewN | apply below_drew1) | exact HB.out)))); have n1_ := Aside0.mk (below_step (by repeat (first | (with_reducible first | exact HB.out | apply below_alloc | apply pw_below_drewN | apply below_drew1) | exact HB.out)) hb); clear HB; have HO362 := n0_; have HB := n1_; clear n0_ n1_; (try clear hb); (try clear hb2); (try clear hk); (try clear hi); (try clear ho0); obtain ⟨Ao5, co5, eo5⟩ := Kd.V_slice HO362.out; subst eo5) | ((with_reducible refine gate_callee (f := 22) rfl ?_); refine goesL_ (some 8) rfl rfl Try.func22 (by kernel_rfl) rfl #[.slice Ao5 t360.length co5, .int .i64 0] rfl (by (try simp only [List.map_toArray, List.map_cons, List.map_nil]); first | done | rfl | (simp only [List.length_drop, List.length_take]; rfl)) ?_; (with_reducible refine (gjson_validpayload.calls k _ _ t360 0 t363 t364 _ ?side1 ?side2 A3.out).mono ?_); (case side1 => repeat (first | exact (Kd.V_reads' HO362.out).2.2 | (with_reducible refine Kd.C_alloc ?_ _) | (with_reducible refine Kd.C_drewN ?_ _) | (with_reducible refine Kd.C_drew ?_))); (case side2 => exact (Kd.V_reads' HO362.out).2.1); rintro e w6 ⟨rfl, hb⟩; refine ⟨_, rfl, ?_⟩; have n0_ := Aside0.mk (Kd.V_below (by (with_reducible repeat (first | apply Kd.V_alloc | apply Kd.V_drewN | apply Kd.V_drew)); exact HO362.out) hb); have n1_ := Aside0.mk (below_step (by repeat (first | (with_reducible first | exact HB.out | apply below_alloc | apply pw_below_drewN | apply below_drew1) | exact HB.out)) hb); clear HO362; clear HB; have HO362 := n0_; have HB := n1_; clear n0_ n1_; (try clear hb); (try clear hb2); (try clear hk); (try clear hi)))
  go_ret
  exact ⟨by first | rfl | (simp [errW_none, errW_some] <;> rfl) | (simp [*, errW_none, errW_some] <;> rfl), by repeat (first | (with_reducible first | exact HB.out | apply below_alloc | apply pw_below_drewN | apply below_drew1) | exact HB.out)⟩

/-! ### gjson_modValid: function 16 -/
def gjson_modValid.f (k : Nat) (a0 : ByteArray) (a1 : ByteArray) : Option (ByteArray) := (gjson_Valid.f k a0).bind fun t365 => (if t365 = true then (some a0) else (some (⟨#[]⟩ : ByteArray)))
theorem gjson_modValid.mono : ∀ a0 a1 k, LeO (gjson_modValid.f k a0 a1) (gjson_modValid.f (k + 1) a0 a1) := by
  intro a0 a1 k
  unfold gjson_modValid.f
  repeat' first
      | (with_reducible exact gjson_Valid.mono _ _)
      | (with_reducible exact LeO.refl _)
      | (with_reducible exact LeO.none _)
      | (with_reducible refine LeO.ite ?_ ?_)
      | (with_reducible refine LeO.bind ?_ (fun _ => ?_))
      | exact gjson_Valid.mono _ _
      | exact LeO.none _
      | refine LeO.ite ?_ ?_
      | refine LeO.bind ?_ (fun _ => ?_)
set_option maxHeartbeats 8000000 in
set_option maxRecDepth 100000 in
theorem gjson_modValid.calls (k : Nat) (a0 : ByteArray) (a1 : ByteArray) (r : ByteArray) (w : World) (h : gjson_modValid.f k a0 a1 = some r) :
    Calls Try.prog 16 #[.string a0, .string a1] w fun e w' => e = .returned (.string r) ∧ Below w.heap.size w w' := by
  have HB := Aside0.mk (Below.refl w.heap.size w)
  have H : ((gjson_Valid.f k a0).bind fun t365 => (if t365 = true then (some a0) else (some (⟨#[]⟩ : ByteArray)))) = some r := h
  clear h
  replace H := Option.bind_eq_some_iff.mp H
  obtain ⟨t365, A30, H⟩ := H
  replace H : (if t365 = true then (some a0) else (some (⟨#[]⟩ : ByteArray))) = some r := H
  have A3 := Aside0.mk A30
  clear A30
  by_cases c4 : t365 = true
  · subst c4
    have H1 : (some a0) = some r := by rw [if_pos rfl] at H; exact H
    clear H
    have H := H1
    clear H1
    obtain rfl := Option.some.inj H
    go_enter Try.func16, Try.ntmps16
    go_wp2_with (first | ((with_reducible refine gate_callee (f := 20) rfl ?_); refine goesL_ (some 6) rfl rfl Try.func20 (by kernel_rfl) rfl #[.string a0] rfl (by (try simp only [List.map_toArray, List.map_cons, List.map_nil]); first | done | rfl | (simp only [List.length_drop, List.length_take]; rfl)) ?_; (with_reducible refine (gjson_Valid.calls k a0 true _ A3.out).mono ?_); rintro e w5 ⟨rfl, hb⟩; refine ⟨_, rfl, ?_⟩; have n0_ := Aside0.mk (below_step (by repeat (first | (with_reducible first | exact HB.out | apply below_alloc | apply pw_below_drewN | apply below_drew1) | exact HB.out)) hb); clear HB; have HB := n0_; clear n0_; (try clear hb); (try clear hb2); (try clear hk); (try clear hi)))
    go_ret
    exact ⟨by first | rfl | (simp [errW_none, errW_some] <;> rfl) | (simp [*, errW_none, errW_some] <;> rfl), by repeat (first | (with_reducible first | exact HB.out | apply below_alloc | apply pw_below_drewN | apply below_drew1) | exact HB.out)⟩
  · replace c4 := Bool.eq_false_iff.mpr c4
    subst c4
    have H1 : (some (⟨#[]⟩ : ByteArray)) = some r := by rw [if_neg (show ¬ (false = true) by decide)] at H; exact H
    clear H
    have H := H1
    clear H1
    obtain rfl := Option.some.inj H
    go_enter Try.func16, Try.ntmps16
    go_wp2_with (first | ((with_reducible refine gate_callee (f := 20) rfl ?_); refine goesL_ (some 6) rfl rfl Try.func20 (by kernel_rfl) rfl #[.string a0] rfl (by (try simp only [List.map_toArray, List.map_cons, List.map_nil]); first | done | rfl | (simp only [List.length_drop, List.length_take]; rfl)) ?_; (with_reducible refine (gjson_Valid.calls k a0 false _ A3.out).mono ?_); rintro e w6 ⟨rfl, hb⟩; refine ⟨_, rfl, ?_⟩; have n0_ := Aside0.mk (below_step (by repeat (first | (with_reducible first | exact HB.out | apply below_alloc | apply pw_below_drewN | apply below_drew1) | exact HB.out)) hb); clear HB; have HB := n0_; clear n0_; (try clear hb); (try clear hb2); (try clear hk); (try clear hi)))
    go_ret
    exact ⟨by first | rfl | (simp [errW_none, errW_some] <;> rfl) | (simp [*, errW_none, errW_some] <;> rfl), by repeat (first | (with_reducible first | exact HB.out | apply below_alloc | apply pw_below_drewN | apply below_drew1) | exact HB.out)⟩

/-! ### gjson_DoorIfValid: function 8 -/
def gjson_DoorIfValid.f (k : Nat) (a0 : ByteArray) : Option (ByteArray) := (gjson_modValid.f k a0 (⟨#[]⟩ : ByteArray)).bind fun t366 => (some t366)
theorem gjson_DoorIfValid.mono : ∀ a0 k, LeO (gjson_DoorIfValid.f k a0) (gjson_DoorIfValid.f (k + 1) a0) := by
  intro a0 k
  unfold gjson_DoorIfValid.f
  repeat' first
      | (with_reducible exact gjson_modValid.mono _ _ _)
      | (with_reducible exact LeO.refl _)
      | (with_reducible exact LeO.none _)
      | (with_reducible refine LeO.ite ?_ ?_)
      | (with_reducible refine LeO.bind ?_ (fun _ => ?_))
      | exact gjson_modValid.mono _ _ _
      | exact LeO.none _
      | refine LeO.ite ?_ ?_
      | refine LeO.bind ?_ (fun _ => ?_)
set_option maxHeartbeats 8000000 in
set_option maxRecDepth 100000 in
theorem gjson_DoorIfValid.calls (k : Nat) (a0 : ByteArray) (r : ByteArray) (w : World) (h : gjson_DoorIfValid.f k a0 = some r) :
    Calls Try.prog 8 #[.string a0] w fun e w' => e = .returned (.string r) ∧ Below w.heap.size w w' := by
  have HB := Aside0.mk (Below.refl w.heap.size w)
  have H : ((gjson_modValid.f k a0 (⟨#[]⟩ : ByteArray)).bind fun t366 => (some t366)) = some r := h
  clear h
  replace H := Option.bind_eq_some_iff.mp H
  obtain ⟨t366, A20, H⟩ := H
  replace H : (some t366) = some r := H
  have A2 := Aside0.mk A20
  clear A20
  obtain rfl := Option.some.inj H
  go_enter Try.func8, Try.ntmps8
  go_wp2_with (first | ((with_reducible refine gate_callee (f := 16) rfl ?_); refine goesL_ (some 4) rfl rfl Try.func16 (by kernel_rfl) rfl #[.string a0, .string (⟨#[]⟩ : ByteArray)] rfl (by (try simp only [List.map_toArray, List.map_cons, List.map_nil]); first | done | rfl | (simp only [List.length_drop, List.length_take]; rfl)) ?_; (with_reducible refine (gjson_modValid.calls k a0 (⟨#[]⟩ : ByteArray) t366 _ A2.out).mono ?_); rintro e w3 ⟨rfl, hb⟩; refine ⟨_, rfl, ?_⟩; have n0_ := Aside0.mk (below_step (by repeat (first | (with_reducible first | exact HB.out | apply below_alloc | apply pw_below_drewN | apply below_drew1) | exact HB.out)) hb); clear HB; have HB := n0_; clear n0_; (try clear hb); (try clear hb2); (try clear hk); (try clear hi)))
  go_ret
  exact ⟨by first | rfl | (simp [errW_none, errW_some] <;> rfl) | (simp [*, errW_none, errW_some] <;> rfl), by repeat (first | (with_reducible first | exact HB.out | apply below_alloc | apply pw_below_drewN | apply below_drew1) | exact HB.out)⟩

/-! ### impl_GjIfValid: function 5 -/
def impl_GjIfValid.f (k : Nat) (a0 : ByteArray) : Option (ByteArray) := (gjson_DoorIfValid.f k a0).bind fun t367 => (some t367)
theorem impl_GjIfValid.mono : ∀ a0 k, LeO (impl_GjIfValid.f k a0) (impl_GjIfValid.f (k + 1) a0) := by
  intro a0 k
  unfold impl_GjIfValid.f
  repeat' first
      | (with_reducible exact gjson_DoorIfValid.mono _ _)
      | (with_reducible exact LeO.refl _)
      | (with_reducible exact LeO.none _)
      | (with_reducible refine LeO.ite ?_ ?_)
      | (with_reducible refine LeO.bind ?_ (fun _ => ?_))
      | exact gjson_DoorIfValid.mono _ _
      | exact LeO.none _
      | refine LeO.ite ?_ ?_
      | refine LeO.bind ?_ (fun _ => ?_)
set_option maxHeartbeats 8000000 in
set_option maxRecDepth 100000 in
theorem impl_GjIfValid.calls (k : Nat) (a0 : ByteArray) (r : ByteArray) (w : World) (h : impl_GjIfValid.f k a0 = some r) :
    Calls Try.prog 5 #[.string a0] w fun e w' => e = .returned (.string r) ∧ Below w.heap.size w w' := by
  have HB := Aside0.mk (Below.refl w.heap.size w)
  have H : ((gjson_DoorIfValid.f k a0).bind fun t367 => (some t367)) = some r := h
  clear h
  replace H := Option.bind_eq_some_iff.mp H
  obtain ⟨t367, A20, H⟩ := H
  replace H : (some t367) = some r := H
  have A2 := Aside0.mk A20
  clear A20
  obtain rfl := Option.some.inj H
  go_enter Try.func5, Try.ntmps5
  go_wp2_with (first | ((with_reducible refine gate_callee (f := 8) rfl ?_); refine goesL_ (some 4) rfl rfl Try.func8 (by kernel_rfl) rfl #[.string a0] rfl (by (try simp only [List.map_toArray, List.map_cons, List.map_nil]); first | done | rfl | (simp only [List.length_drop, List.length_take]; rfl)) ?_; (with_reducible refine (gjson_DoorIfValid.calls k a0 t367 _ A2.out).mono ?_); rintro e w3 ⟨rfl, hb⟩; refine ⟨_, rfl, ?_⟩; have n0_ := Aside0.mk (below_step (by repeat (first | (with_reducible first | exact HB.out | apply below_alloc | apply pw_below_drewN | apply below_drew1) | exact HB.out)) hb); clear HB; have HB := n0_; clear n0_; (try clear hb); (try clear hb2); (try clear hk); (try clear hi)))
  go_ret
  exact ⟨by first | rfl | (simp [errW_none, errW_some] <;> rfl) | (simp [*, errW_none, errW_some] <;> rfl), by repeat (first | (with_reducible first | exact HB.out | apply below_alloc | apply pw_below_drewN | apply below_drew1) | exact HB.out)⟩

/-! ### laws_FnGjIfValid: function 3 -/
def laws_FnGjIfValid.f (k : Nat) (a0 : ByteArray) : Option (Bool) := if (a0.size : Int) > 2147483647 then (some true) else (if (a0.size : Int) > 65536 then (some true) else ((spec_Places.f k a0).bind fun bt368 => (if bt368.2.2.2.2.2 = true then ((impl_GjIfValid.f k a0).bind fun t379 => (some (t379.toList == a0.toList))) else ((impl_GjIfValid.f k a0).bind fun t380 => (some (t380.toList == ([] : List UInt8)))))))
theorem laws_FnGjIfValid.mono : ∀ a0 k, LeO (laws_FnGjIfValid.f k a0) (laws_FnGjIfValid.f (k + 1) a0) := by
  intro a0 k
  unfold laws_FnGjIfValid.f
  repeat' first
      | (with_reducible exact impl_GjIfValid.mono _ _)
      | (with_reducible exact spec_Places.mono _ _)
      | (with_reducible exact LeO.refl _)
      | (with_reducible exact LeO.none _)
      | (with_reducible refine LeO.ite ?_ ?_)
      | (with_reducible refine LeO.bind ?_ (fun _ => ?_))
      | exact impl_GjIfValid.mono _ _
      | exact spec_Places.mono _ _
      | exact LeO.none _
      | refine LeO.ite ?_ ?_
      | refine LeO.bind ?_ (fun _ => ?_)
set_option maxHeartbeats 8000000 in
set_option maxRecDepth 100000 in
theorem laws_FnGjIfValid.calls (k : Nat) (a0 : ByteArray) (r : Bool) (w : World) (h : laws_FnGjIfValid.f k a0 = some r) :
    Calls Try.prog 3 #[.string a0] w fun e w' => e = .returned (.bool r) ∧ Below w.heap.size w w' := by
  have hu25 := Try.underlying25
  have HB := Aside0.mk (Below.refl w.heap.size w)
  have H : (if (a0.size : Int) > 2147483647 then (some true) else (if (a0.size : Int) > 65536 then (some true) else ((spec_Places.f k a0).bind fun bt368 => (if bt368.2.2.2.2.2 = true then ((impl_GjIfValid.f k a0).bind fun t379 => (some (t379.toList == a0.toList))) else ((impl_GjIfValid.f k a0).bind fun t380 => (some (t380.toList == ([] : List UInt8)))))))) = some r := h
  clear h
  by_cases c2 : (a0.size : Int) > 2147483647
  · rw [if_pos c2] at H
    have c2b0 : decide (2147483647 < (a0.size : Int)) = true := decide_eq_true c2
    have c2b1 : decide (2147483647 < a0.size) = true := decide_eq_true (by omega)
    clear c2
    obtain rfl := Option.some.inj H
    go_enter Try.func3, Try.ntmps3
    go_wp2
    go_ret
    exact ⟨by first | rfl | (simp [errW_none, errW_some] <;> rfl) | (simp [*, errW_none, errW_some] <;> rfl), by repeat (first | (with_reducible first | exact HB.out | apply below_alloc | apply pw_below_drewN | apply below_drew1) | exact HB.out)⟩
  · rw [if_neg c2] at H
    have c2b0 : decide (2147483647 < (a0.size : Int)) = false := decide_eq_false c2
    have c2b1 : decide (2147483647 < a0.size) = false := decide_eq_false (by omega)
    clear c2
    by_cases c3 : (a0.size : Int) > 65536
    · rw [if_pos c3] at H
      have c3b0 : decide (65536 < (a0.size : Int)) = true := decide_eq_true c3
      have c3b1 : decide (65536 < a0.size) = true := decide_eq_true (by omega)
      clear c3
      obtain rfl := Option.some.inj H
      go_enter Try.func3, Try.ntmps3
      go_wp2
      go_ret
      exact ⟨by first | rfl | (simp [errW_none, errW_some] <;> rfl) | (simp [*, errW_none, errW_some] <;> rfl), by repeat (first | (with_reducible first | exact HB.out | apply below_alloc | apply pw_below_drewN | apply below_drew1) | exact HB.out)⟩
    · rw [if_neg c3] at H
      have c3b0 : decide (65536 < (a0.size : Int)) = false := decide_eq_false c3
      have c3b1 : decide (65536 < a0.size) = false := decide_eq_false (by omega)
      clear c3
      replace H := Option.bind_eq_some_iff.mp H
      obtain ⟨⟨t368, t369, t370, t371, t374, t377⟩, A40, H⟩ := H
      replace H : (if t377 = true then ((impl_GjIfValid.f k a0).bind fun t379 => (some (t379.toList == a0.toList))) else ((impl_GjIfValid.f k a0).bind fun t380 => (some (t380.toList == ([] : List UInt8))))) = some r := H
      have A4 := Aside0.mk A40
      clear A40
      by_cases c5 : t377 = true
      · subst c5
        have H1 : ((impl_GjIfValid.f k a0).bind fun t379 => (some (t379.toList == a0.toList))) = some r := by rw [if_pos rfl] at H; exact H
        clear H
        have H := H1
        clear H1
        replace H := Option.bind_eq_some_iff.mp H
        obtain ⟨t379, A60, H⟩ := H
        replace H : (some (t379.toList == a0.toList)) = some r := H
        have A6 := Aside0.mk A60
        clear A60
        obtain rfl := Option.some.inj H
        go_enter Try.func3, Try.ntmps3
        go_wp2_with (first | ((with_reducible refine gate_callee (f := 4) rfl ?_); refine goesL_ (some 13) rfl rfl Try.func4 (by kernel_rfl) rfl #[.string a0] rfl (by (try simp only [List.map_toArray, List.map_cons, List.map_nil]); first | done | rfl | (simp only [List.length_drop, List.length_take]; rfl)) ?_; (with_reducible refine (spec_Places.calls k a0 t368 t369 t370 t371 t374 true _ A4.out).mono ?_); rintro e w7 ⟨v372, v375, rfl, ho0, ho1, hb⟩; refine ⟨_, rfl, ?_⟩; have n0_ := Aside0.mk (Kd.R_lower ho0 (below_size (by repeat (first | (with_reducible first | exact HB.out | apply below_alloc | apply pw_below_drewN | apply below_drew1) | exact HB.out)))); have n1_ := Aside0.mk (Kd.R_lower ho1 (below_size (by repeat (first | (with_reducible first | exact HB.out | apply below_alloc | apply pw_below_drewN | apply below_drew1) | exact HB.out)))); have n2_ := Aside0.mk (below_step (by repeat (first | (with_reducible first | exact HB.out | apply below_alloc | apply pw_below_drewN | apply below_drew1) | exact HB.out)) hb); clear HB; have HO373 := n0_; have HO376 := n1_; have HB := n2_; clear n0_ n1_ n2_; (try clear hb); (try clear hb2); (try clear hk); (try clear hi); (try clear ho0); (try clear ho1)) | ((with_reducible refine gate_dst (N := 3) rfl ?_); refine box_event ?hg (N := 3) ?hd (cs := #[.int .i64 0, .int .i64 0, .int .i64 0, .slice none 0 0, .slice none 0 0]) (t := 25) ?hr ?_; (case hd => rfl); (case hg => rfl); (case hr => first | (go_simp; done) | (go_simp; rfl)); intro gb378 hg w8 hbox hb; have n0_ := Aside0.mk (Kd.R_below (by (with_reducible repeat (first | apply Kd.R_alloc | apply Kd.R_drewN | apply Kd.R_drew)); exact HO373.out) hb); have n1_ := Aside0.mk (Kd.R_below (Kd.R_elderB (by (with_reducible repeat (first | apply Kd.R_alloc | apply Kd.R_drewN | apply Kd.R_drew)); exact HO376.out) gb378 (Nat.le_of_eq hg.symm)) hb); have n2_ := Aside0.mk (below_step (by repeat (first | (with_reducible first | exact HB.out | apply below_alloc | apply pw_below_drewN | apply below_drew1) | exact HB.out)) hb); have n3_ := Aside0.mk (hbox); have n4_ := Aside0.mk ((by rw [hg]; exact (below_size (by repeat (first | (with_reducible first | exact HB.out | apply below_alloc | apply pw_below_drewN | apply below_drew1) | exact HB.out))) : w.heap.size ≤ gb378)); have n5_ := Aside0.mk ((by rw [hg]; exact (below_size (by repeat (first | (with_reducible first | exact HB.out | apply below_alloc | apply pw_below_drewN | apply below_drew1) | exact HB.out))) : w.heap.size ≤ gb378)); clear HO373; clear HO376; clear HB; have HO373 := n0_; have HO376 := n1_; have HB := n2_; have BK378 := n3_; have GW378 := n4_; have GE378 := n5_; clear n0_ n1_ n2_ n3_ n4_ n5_; clear hb hbox hg; have hcz9_0 : w8.cell? ⟨gb378, 0, none⟩ = some (.int .i64 0) := (blk_cell BK378.out 0).trans rfl; have hcz9_1 : w8.cell? ⟨gb378, 1, none⟩ = some (.int .i64 0) := (blk_cell BK378.out 1).trans rfl; have hcz9_2 : w8.cell? ⟨gb378, 2, none⟩ = some (.int .i64 0) := (blk_cell BK378.out 2).trans rfl; have hcz9_3 : w8.cell? ⟨gb378, 3, none⟩ = some (.slice none 0 0) := (blk_cell BK378.out 3).trans rfl; have hcz9_4 : w8.cell? ⟨gb378, 4, none⟩ = some (.slice none 0 0) := (blk_cell BK378.out 4).trans rfl; have hfz9_0 := blk_frozen BK378.out 0; have hfz9_1 := blk_frozen BK378.out 1; have hfz9_2 := blk_frozen BK378.out 2; have hfz9_3 := blk_frozen BK378.out 3; have hfz9_4 := blk_frozen BK378.out 4; obtain ⟨Ao10, co10, eo10⟩ := Kd.R_slice HO373.out; subst eo10; obtain ⟨Ao11, co11, eo11⟩ := Kd.R_slice HO376.out; subst eo11) | ((with_reducible refine gate_callee (f := 5) rfl ?_); refine goesL_ (some 18) rfl rfl Try.func5 (by kernel_rfl) rfl #[.string a0] rfl (by (try simp only [List.map_toArray, List.map_cons, List.map_nil]); first | done | rfl | (simp only [List.length_drop, List.length_take]; rfl)) ?_; (with_reducible refine (impl_GjIfValid.calls k a0 t379 _ A6.out).mono ?_); rintro e w12 ⟨rfl, hb⟩; refine ⟨_, rfl, ?_⟩; have n0_ := Aside0.mk (Kd.R_below (by (with_reducible repeat (first | apply Kd.R_alloc | apply Kd.R_drewN | apply Kd.R_drew)); exact (Kd.R_mono (Kd.R_far (p := ⟨gb378, 4, none⟩) (Kd.R_far (p := ⟨gb378, 3, none⟩) (Kd.R_far (p := ⟨gb378, 2, none⟩) (Kd.R_far (p := ⟨gb378, 1, none⟩) (Kd.R_far (p := ⟨gb378, 0, none⟩) (Kd.R_types HO373.out BK378.out (by decide)) (fun _ hk => hk.2) (.int .i64 t368)) (fun _ hk => hk.2) (.int .i64 t369)) (fun _ hk => hk.2) (.int .i64 t370)) (fun _ hk => hk.2) (.slice Ao10 t371.length co10)) (fun _ hk => hk.2) (.slice Ao11 t374.length co11)) (fun _ h_ => h_.1))) hb); have n1_ := Aside0.mk (Kd.R_below (by (with_reducible repeat (first | apply Kd.R_alloc | apply Kd.R_drewN | apply Kd.R_drew)); exact (Kd.R_mono (Kd.R_far (p := ⟨gb378, 4, none⟩) (Kd.R_far (p := ⟨gb378, 3, none⟩) (Kd.R_far (p := ⟨gb378, 2, none⟩) (Kd.R_far (p := ⟨gb378, 1, none⟩) (Kd.R_far (p := ⟨gb378, 0, none⟩) (Kd.R_mono HO376.out (fun k_ hk => (⟨hk, hk.2⟩ : _ ∧ k_ ≠ gb378))) (fun _ hk => hk.2) (.int .i64 t368)) (fun _ hk => hk.2) (.int .i64 t369)) (fun _ hk => hk.2) (.int .i64 t370)) (fun _ hk => hk.2) (.slice Ao10 t371.length co10)) (fun _ hk => hk.2) (.slice Ao11 t374.length co11)) (fun _ h_ => h_.1))) hb); have n2_ := Aside0.mk (blk_below (g := gb378) (o := .cells #[.int .i64 t368, .int .i64 t369, .int .i64 t370, .slice Ao10 t371.length co10, .slice Ao11 t374.length co11] 25 (0, 0)) (by (with_reducible repeat (first | refine blk_drewN ?_ _ | refine blk_drew ?_ | refine blk_alloc ?_ _)); refine blk_put (cs := #[.int .i64 t368, .int .i64 t369, .int .i64 t370, .slice Ao10 t371.length co10, .slice none 0 0]) ?_ 4 _ rfl; (with_reducible repeat (first | refine blk_drewN ?_ _ | refine blk_drew ?_ | refine blk_alloc ?_ _)); refine blk_put (cs := #[.int .i64 t368, .int .i64 t369, .int .i64 t370, .slice none 0 0, .slice none 0 0]) ?_ 3 _ rfl; (with_reducible repeat (first | refine blk_drewN ?_ _ | refine blk_drew ?_ | refine blk_alloc ?_ _)); refine blk_put (cs := #[.int .i64 t368, .int .i64 t369, .int .i64 0, .slice none 0 0, .slice none 0 0]) ?_ 2 _ rfl; (with_reducible repeat (first | refine blk_drewN ?_ _ | refine blk_drew ?_ | refine blk_alloc ?_ _)); refine blk_put (cs := #[.int .i64 t368, .int .i64 0, .int .i64 0, .slice none 0 0, .slice none 0 0]) ?_ 1 _ rfl; (with_reducible repeat (first | refine blk_drewN ?_ _ | refine blk_drew ?_ | refine blk_alloc ?_ _)); refine blk_put (cs := #[.int .i64 0, .int .i64 0, .int .i64 0, .slice none 0 0, .slice none 0 0]) ?_ 0 _ rfl; (with_reducible repeat (first | refine blk_drewN ?_ _ | refine blk_drew ?_ | refine blk_alloc ?_ _)); exact BK378.out) hb); have n3_ := Aside0.mk (below_step (by repeat (first | (with_reducible first | exact HB.out | apply below_alloc | apply pw_below_drewN | apply below_drew1 | refine below_set ?_ GE378.out) | exact HB.out)) hb); clear HO373; clear HO376; clear BK378; clear HB; have HO373 := n0_; have HO376 := n1_; have BK378 := n2_; have HB := n3_; clear n0_ n1_ n2_ n3_; (try clear hb); (try clear hb2); (try clear hk); (try clear hi)))
        go_ret
        exact ⟨by first | rfl | (simp [errW_none, errW_some] <;> rfl) | (simp [*, errW_none, errW_some] <;> rfl), by repeat (first | (with_reducible first | exact HB.out | apply below_alloc | apply pw_below_drewN | apply below_drew1 | refine below_set ?_ GE378.out) | exact HB.out)⟩
      · replace c5 := Bool.eq_false_iff.mpr c5
        subst c5
        have H1 : ((impl_GjIfValid.f k a0).bind fun t380 => (some (t380.toList == ([] : List UInt8)))) = some r := by rw [if_neg (show ¬ (false = true) by decide)] at H; exact H
        clear H
        have H := H1
        clear H1
        replace H := Option.bind_eq_some_iff.mp H
        obtain ⟨t380, A130, H⟩ := H
        replace H : (some (t380.toList == ([] : List UInt8))) = some r := H
        have A13 := Aside0.mk A130
        clear A130
        obtain rfl := Option.some.inj H
        go_enter Try.func3, Try.ntmps3
        go_wp2_with (first | ((with_reducible refine gate_callee (f := 4) rfl ?_); refine goesL_ (some 13) rfl rfl Try.func4 (by kernel_rfl) rfl #[.string a0] rfl (by (try simp only [List.map_toArray, List.map_cons, List.map_nil]); first | done | rfl | (simp only [List.length_drop, List.length_take]; rfl)) ?_; (with_reducible refine (spec_Places.calls k a0 t368 t369 t370 t371 t374 false _ A4.out).mono ?_); rintro e w14 ⟨v372, v375, rfl, ho0, ho1, hb⟩; refine ⟨_, rfl, ?_⟩; have n0_ := Aside0.mk (Kd.R_lower ho0 (below_size (by repeat (first | (with_reducible first | exact HB.out | apply below_alloc | apply pw_below_drewN | apply below_drew1) | exact HB.out)))); have n1_ := Aside0.mk (Kd.R_lower ho1 (below_size (by repeat (first | (with_reducible first | exact HB.out | apply below_alloc | apply pw_below_drewN | apply below_drew1) | exact HB.out)))); have n2_ := Aside0.mk (below_step (by repeat (first | (with_reducible first | exact HB.out | apply below_alloc | apply pw_below_drewN | apply below_drew1) | exact HB.out)) hb); clear HB; have HO373 := n0_; have HO376 := n1_; have HB := n2_; clear n0_ n1_ n2_; (try clear hb); (try clear hb2); (try clear hk); (try clear hi); (try clear ho0); (try clear ho1)) | ((with_reducible refine gate_dst (N := 3) rfl ?_); refine box_event ?hg (N := 3) ?hd (cs := #[.int .i64 0, .int .i64 0, .int .i64 0, .slice none 0 0, .slice none 0 0]) (t := 25) ?hr ?_; (case hd => rfl); (case hg => rfl); (case hr => first | (go_simp; done) | (go_simp; rfl)); intro gb378 hg w15 hbox hb; have n0_ := Aside0.mk (Kd.R_below (by (with_reducible repeat (first | apply Kd.R_alloc | apply Kd.R_drewN | apply Kd.R_drew)); exact HO373.out) hb); have n1_ := Aside0.mk (Kd.R_below (Kd.R_elderB (by (with_reducible repeat (first | apply Kd.R_alloc | apply Kd.R_drewN | apply Kd.R_drew)); exact HO376.out) gb378 (Nat.le_of_eq hg.symm)) hb); have n2_ := Aside0.mk (below_step (by repeat (first | (with_reducible first | exact HB.out | apply below_alloc | apply pw_below_drewN | apply below_drew1) | exact HB.out)) hb); have n3_ := Aside0.mk (hbox); have n4_ := Aside0.mk ((by rw [hg]; exact (below_size (by repeat (first | (with_reducible first | exact HB.out | apply below_alloc | apply pw_below_drewN | apply below_drew1) | exact HB.out))) : w.heap.size ≤ gb378)); have n5_ := Aside0.mk ((by rw [hg]; exact (below_size (by repeat (first | (with_reducible first | exact HB.out | apply below_alloc | apply pw_below_drewN | apply below_drew1) | exact HB.out))) : w.heap.size ≤ gb378)); clear HO373; clear HO376; clear HB; have HO373 := n0_; have HO376 := n1_; have HB := n2_; have BK378 := n3_; have GW378 := n4_; have GE378 := n5_; clear n0_ n1_ n2_ n3_ n4_ n5_; clear hb hbox hg; have hcz16_0 : w15.cell? ⟨gb378, 0, none⟩ = some (.int .i64 0) := (blk_cell BK378.out 0).trans rfl; have hcz16_1 : w15.cell? ⟨gb378, 1, none⟩ = some (.int .i64 0) := (blk_cell BK378.out 1).trans rfl; have hcz16_2 : w15.cell? ⟨gb378, 2, none⟩ = some (.int .i64 0) := (blk_cell BK378.out 2).trans rfl; have hcz16_3 : w15.cell? ⟨gb378, 3, none⟩ = some (.slice none 0 0) := (blk_cell BK378.out 3).trans rfl; have hcz16_4 : w15.cell? ⟨gb378, 4, none⟩ = some (.slice none 0 0) := (blk_cell BK378.out 4).trans rfl; have hfz16_0 := blk_frozen BK378.out 0; have hfz16_1 := blk_frozen BK378.out 1; have hfz16_2 := blk_frozen BK378.out 2; have hfz16_3 := blk_frozen BK378.out 3; have hfz16_4 := blk_frozen BK378.out 4; obtain ⟨Ao17, co17, eo17⟩ := Kd.R_slice HO373.out; subst eo17; obtain ⟨Ao18, co18, eo18⟩ := Kd.R_slice HO376.out; subst eo18) | ((with_reducible refine gate_callee (f := 5) rfl ?_); refine goesL_ (some 22) rfl rfl Try.func5 (by kernel_rfl) rfl #[.string a0] rfl (by (try simp only [List.map_toArray, List.map_cons, List.map_nil]); first | done | rfl | (simp only [List.length_drop, List.length_take]; rfl)) ?_; (with_reducible refine (impl_GjIfValid.calls k a0 t380 _ A13.out).mono ?_); rintro e w19 ⟨rfl, hb⟩; refine ⟨_, rfl, ?_⟩; have n0_ := Aside0.mk (Kd.R_below (by (with_reducible repeat (first | apply Kd.R_alloc | apply Kd.R_drewN | apply Kd.R_drew)); exact (Kd.R_mono (Kd.R_far (p := ⟨gb378, 4, none⟩) (Kd.R_far (p := ⟨gb378, 3, none⟩) (Kd.R_far (p := ⟨gb378, 2, none⟩) (Kd.R_far (p := ⟨gb378, 1, none⟩) (Kd.R_far (p := ⟨gb378, 0, none⟩) (Kd.R_types HO373.out BK378.out (by decide)) (fun _ hk => hk.2) (.int .i64 t368)) (fun _ hk => hk.2) (.int .i64 t369)) (fun _ hk => hk.2) (.int .i64 t370)) (fun _ hk => hk.2) (.slice Ao17 t371.length co17)) (fun _ hk => hk.2) (.slice Ao18 t374.length co18)) (fun _ h_ => h_.1))) hb); have n1_ := Aside0.mk (Kd.R_below (by (with_reducible repeat (first | apply Kd.R_alloc | apply Kd.R_drewN | apply Kd.R_drew)); exact (Kd.R_mono (Kd.R_far (p := ⟨gb378, 4, none⟩) (Kd.R_far (p := ⟨gb378, 3, none⟩) (Kd.R_far (p := ⟨gb378, 2, none⟩) (Kd.R_far (p := ⟨gb378, 1, none⟩) (Kd.R_far (p := ⟨gb378, 0, none⟩) (Kd.R_mono HO376.out (fun k_ hk => (⟨hk, hk.2⟩ : _ ∧ k_ ≠ gb378))) (fun _ hk => hk.2) (.int .i64 t368)) (fun _ hk => hk.2) (.int .i64 t369)) (fun _ hk => hk.2) (.int .i64 t370)) (fun _ hk => hk.2) (.slice Ao17 t371.length co17)) (fun _ hk => hk.2) (.slice Ao18 t374.length co18)) (fun _ h_ => h_.1))) hb); have n2_ := Aside0.mk (blk_below (g := gb378) (o := .cells #[.int .i64 t368, .int .i64 t369, .int .i64 t370, .slice Ao17 t371.length co17, .slice Ao18 t374.length co18] 25 (0, 0)) (by (with_reducible repeat (first | refine blk_drewN ?_ _ | refine blk_drew ?_ | refine blk_alloc ?_ _)); refine blk_put (cs := #[.int .i64 t368, .int .i64 t369, .int .i64 t370, .slice Ao17 t371.length co17, .slice none 0 0]) ?_ 4 _ rfl; (with_reducible repeat (first | refine blk_drewN ?_ _ | refine blk_drew ?_ | refine blk_alloc ?_ _)); refine blk_put (cs := #[.int .i64 t368, .int .i64 t369, .int .i64 t370, .slice none 0 0, .slice none 0 0]) ?_ 3 _ rfl; (with_reducible repeat (first | refine blk_drewN ?_ _ | refine blk_drew ?_ | refine blk_alloc ?_ _)); refine blk_put (cs := #[.int .i64 t368, .int .i64 t369, .int .i64 0, .slice none 0 0, .slice none 0 0]) ?_ 2 _ rfl; (with_reducible repeat (first | refine blk_drewN ?_ _ | refine blk_drew ?_ | refine blk_alloc ?_ _)); refine blk_put (cs := #[.int .i64 t368, .int .i64 0, .int .i64 0, .slice none 0 0, .slice none 0 0]) ?_ 1 _ rfl; (with_reducible repeat (first | refine blk_drewN ?_ _ | refine blk_drew ?_ | refine blk_alloc ?_ _)); refine blk_put (cs := #[.int .i64 0, .int .i64 0, .int .i64 0, .slice none 0 0, .slice none 0 0]) ?_ 0 _ rfl; (with_reducible repeat (first | refine blk_drewN ?_ _ | refine blk_drew ?_ | refine blk_alloc ?_ _)); exact BK378.out) hb); have n3_ := Aside0.mk (below_step (by repeat (first | (with_reducible first | exact HB.out | apply below_alloc | apply pw_below_drewN | apply below_drew1 | refine below_set ?_ GE378.out) | exact HB.out)) hb); clear HO373; clear HO376; clear BK378; clear HB; have HO373 := n0_; have HO376 := n1_; have BK378 := n2_; have HB := n3_; clear n0_ n1_ n2_ n3_; (try clear hb); (try clear hb2); (try clear hk); (try clear hi)))
        go_ret
        exact ⟨by first | rfl | (simp [errW_none, errW_some] <;> rfl) | (simp [*, errW_none, errW_some] <;> rfl), by repeat (first | (with_reducible first | exact HB.out | apply below_alloc | apply pw_below_drewN | apply below_drew1 | refine below_set ?_ GE378.out) | exact HB.out)⟩

/-- THE ONE PURE STATEMENT of laws_FnGjIfValid: yours. -/
def laws_FnGjIfValid.Pure : Prop := ∀ (a0 : ByteArray), a0.size ≤ 140737488351232 → ∃ k, laws_FnGjIfValid.f k a0 = some true
theorem laws_FnGjIfValid.walk (P : laws_FnGjIfValid.Pure) (a0 : ByteArray) (w : World) (w0 : a0.size ≤ 140737488351232) :
    Calls Try.prog 3 #[.string a0] w fun e w' => e = .returned (.bool true) ∧ Below w.heap.size w w' := by
  obtain ⟨k, h⟩ := P a0 w0
  refine (laws_FnGjIfValid.calls k a0 true w h).mono ?_
  rintro e w' ⟨rfl, hd⟩
  exact ⟨rfl, hd⟩

end Go.Proofs.Ytmbengbkeelpaaa.PFnGjIfValid
