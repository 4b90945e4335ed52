-- Written for this claim by this session's own program (wip/xprint).
import Derived.Test.YtmbengbkeelpaaaPFnGjIfValidx0
import Derived.Test.YtmbengbkeelpaaaPFnGjIfValidx5
import Derived.Test.YtmbengbkeelpaaaPFnGjIfValidx6
import Derived.Test.YtmbengbkeelpaaaPFnGjIfValidx7
import Derived.Test.YtmbengbkeelpaaaPFnGjIfValidx8
import Derived.Test.YtmbengbkeelpaaaPFnGjIfValidx9
import Derived.Test.YtmbengbkeelpaaaPFnGjIfValidx10
namespace Go.Proofs.Ytmbengbkeelpaaa.PFnGjIfValid
open Go.RowKit Go.Proofs.YtmbengbkeelpaaaW.PrintWords Go.Proofs.YtmbengbkeelpaaaW.PrintLast Go.Proofs.YtmbengbkeelpaaaW.PrintMore
attribute [local go_sem] max2_int min2_int max_two min_two max_three min_three max_four min_four   -- for this text's walks alone
set_option linter.unusedVariables false
set_option linter.unusedSimpArgs false

/-! ### gjson_validarray: function 26 -/
set_option maxHeartbeats 8000000 in
set_option maxRecDepth 100000 in
theorem gjson_validarray.step (k : Nat) (ih0_ : ∀ m, m < k → gjson_validobject.At m ∧ gjson_validarray.At m ∧ gjson_validany.At m) : gjson_validarray.At k := by
  have IHG := Aside0.mk ih0_
  clear ih0_
  intro A0 c0 l0 a1 r1 r2 w hr0 hc0 h
  cases k with
  | zero => exact absurd h (by simp [gjson_validarray.f])
  | succ k =>
  simp only [gjson_validarray.f] at h
  have HR0 := Aside0.mk hr0
  have HC0 := Aside0.mk hc0
  clear hr0 hc0
  have HB := Aside0.mk (Below.refl w.heap.size w)
  have H : (gjson_validarray.l0 k l0 a1) = some (r1, r2) := h
  clear h
  have H' := Aside0.mk H
  clear H
  go_enter Try.func26, Try.ntmps26
  go_wp2
  (try simp only [Act.put, List.setIfInBounds_toArray, List.set_cons_zero, List.set_cons_succ])
  go_loopg [1] k (fun kq v1 w' => ∃ (x1_1 : Int), v1 = .int .i64 x1_1 ∧ Aside0 (gjson_validarray.l0 kq l0 x1_1 = some (r1, r2)) ∧ Aside0 (kq ≤ k) ∧ Aside0 (Below w.heap.size w w'))
  case atStart => exact ⟨(a1), (by first | rfl | (simp; done) | (simp [*]; done)), H', ⟨Nat.le_refl _⟩, ⟨by repeat (first | (with_reducible first | exact HB.out | apply below_alloc | apply pw_below_drewN | apply below_drew1) | exact HB.out)⟩⟩
  case round =>
    clear H'
    try clear c2
    try clear p2
    obtain ⟨x1_1, rfl, HA, HK1, HB⟩ := hrel
    cases gk with
    | zero => exact absurd HA.out (by simp [gjson_validarray.l0])
    | succ k1 =>
      have H := HA.out
      clear HA
      simp only [gjson_validarray.l0] at H
      by_cases c3 : x1_1 < (l0.length : Int)
      · rw [if_pos c3] at H
        have c3b0 : decide (x1_1 < (l0.length : Int)) = true := decide_eq_true c3
        clear c3
        by_cases c4 : 0 ≤ x1_1
        · rw [if_pos c4] at H
          have c4b0 : decide (0 ≤ x1_1) = true := decide_eq_true c4
          clear c4
          have HC5 := Aside0.mk H
          clear H
          have p332 : 0 ≤ (x1_1 : Int) := of_decide_eq_true (by first | (with_reducible assumption) | assumption)
          have q332 : x1_1 < (l0.length : Int) := of_decide_eq_true (by first | (with_reducible assumption) | assumption)
          obtain ⟨ad332, e332, hx332_0⟩ := Kd.at_int HR0.out x1_1 p332 q332
          cases e332
          replace hx332_0 := (HB.out.cell (World.block_lt_of_cell? w _ hx332_0)).trans hx332_0
          replace p332 := eq_true p332
          replace q332 := eq_true q332
          go_upto_if 47 with (fail)
          go_cut [47] (fun v47 wc => ∃ (kq : Nat) (x47_4 : Bool), v47 = .bool x47_4 ∧ Aside0 (gjson_validarray.j1 kq l0 x1_1 (rd l0 x1_1) x47_4 = some (r1, r2)) ∧ Aside0 (kq ≤ k1) ∧ Aside0 (Below w.heap.size w wc))
          case first =>
            have H := HC5.out
            clear HC5
            by_cases c6 : (rd l0 x1_1) = 32
            · rw [if_pos c6] at H
              have c6b0 : ((rd l0 x1_1) == 32) = true := beq_iff_eq.mpr c6
              have c6b1 : ((rd l0 x1_1) != 32) = false := bne_eq_false_iff_eq.mpr c6
              clear c6
              (first | rw [c6b0] | (simp only [i64_w, i32_w]; rw [c6b0]) | skip)
              have H' := Aside0.mk H
              clear H
              go_wp2
              go_meet
              case rel => exact ⟨_, (((rd l0 x1_1) == 32)), (by first | rfl | (simp; done) | (simp [*]; done)), H', ⟨by have := HK1.out; first | omega | exact Nat.le_refl _⟩, ⟨by repeat (first | (with_reducible first | exact HB.out | apply below_alloc | apply pw_below_drewN | apply below_drew1) | exact HB.out)⟩⟩
            · rw [if_neg c6] at H
              have c6b0 : ((rd l0 x1_1) == 32) = false := beq_eq_false_iff_ne.mpr c6
              have c6b1 : ((rd l0 x1_1) != 32) = true := bne_iff_ne.mpr c6
              (first | rw [c6b0] | (simp only [i64_w, i32_w]; rw [c6b0]) | skip)
              by_cases c7 : (rd l0 x1_1) = 9
              · rw [if_pos c7] at H
                have c7b0 : ((rd l0 x1_1) == 9) = true := beq_iff_eq.mpr c7
                have c7b1 : ((rd l0 x1_1) != 9) = false := bne_eq_false_iff_eq.mpr c7
                clear c7
                have H' := Aside0.mk H
                clear H
                go_wp2
                go_meet
                case rel => exact ⟨_, (((rd l0 x1_1) == 9)), (by first | rfl | (simp; done) | (simp [*]; done)), H', ⟨by have := HK1.out; first | omega | exact Nat.le_refl _⟩, ⟨by repeat (first | (with_reducible first | exact HB.out | apply below_alloc | apply pw_below_drewN | apply below_drew1) | exact HB.out)⟩⟩
              · rw [if_neg c7] at H
                have c7b0 : ((rd l0 x1_1) == 9) = false := beq_eq_false_iff_ne.mpr c7
                have c7b1 : ((rd l0 x1_1) != 9) = true := bne_iff_ne.mpr c7
                by_cases c8 : (rd l0 x1_1) = 10
                · rw [if_pos c8] at H
                  have c8b0 : ((rd l0 x1_1) == 10) = true := beq_iff_eq.mpr c8
                  have c8b1 : ((rd l0 x1_1) != 10) = false := bne_eq_false_iff_eq.mpr c8
                  clear c8
                  have H' := Aside0.mk H
                  clear H
                  go_wp2
                  go_meet
                  case rel => exact ⟨_, (((rd l0 x1_1) == 10)), (by first | rfl | (simp; done) | (simp [*]; done)), H', ⟨by have := HK1.out; first | omega | exact Nat.le_refl _⟩, ⟨by repeat (first | (with_reducible first | exact HB.out | apply below_alloc | apply pw_below_drewN | apply below_drew1) | exact HB.out)⟩⟩
                · rw [if_neg c8] at H
                  have c8b0 : ((rd l0 x1_1) == 10) = false := beq_eq_false_iff_ne.mpr c8
                  have c8b1 : ((rd l0 x1_1) != 10) = true := bne_iff_ne.mpr c8
                  have H' := Aside0.mk H
                  clear H
                  go_wp2
                  go_meet
                  case rel => exact ⟨_, (((rd l0 x1_1) == 13)), (by first | rfl | (simp; done) | (simp [*]; done)), H', ⟨by have := HK1.out; first | omega | exact Nat.le_refl _⟩, ⟨by repeat (first | (with_reducible first | exact HB.out | apply below_alloc | apply pw_below_drewN | apply below_drew1) | exact HB.out)⟩⟩
          case rest =>
            clear HC5
            try clear c2
            try clear p2
            try clear c3
            try clear c3b0
            try clear p3
            try clear q3
            try clear hx3
            try clear c4
            try clear c4b0
            try clear c6
            try clear c6b0
            try clear c6b1
            try clear c7
            try clear c7b0
            try clear c7b1
            try clear c8
            try clear c8b0
            try clear c8b1
            try clear hx332_0
            try clear p2
            try clear p332
            try clear q332
            obtain ⟨kq, x47_4, rfl, HA, HJ4, HB⟩ := hcut
            cases kq with
            | zero => exact absurd HA.out (by simp [gjson_validarray.j1])
            | succ kj4 =>
              have H := HA.out
              clear HA
              simp only [gjson_validarray.j1] at H
              by_cases c9 : x47_4 = true
              · subst c9
                have H1 : (gjson_validarray.l0 kj4 l0 (wrap64 (x1_1 + 1))) = some (r1, r2) := by rw [if_pos rfl] at H; exact H
                clear H
                have H := H1
                clear H1
                have H' := Aside0.mk H
                clear H
                go_wp2
                go_roundg kj4
                case measure => have := HK1.out; have := HJ4.out; omega
                case rel => exact ⟨(wrap64 (x1_1 + 1)), (by first | rfl | (simp; done) | (simp [*]; done)), H', ⟨by have := HK1.out; have := HJ4.out; omega⟩, ⟨by repeat (first | (with_reducible first | exact HB.out | apply below_alloc | apply pw_below_drewN | apply below_drew1) | exact HB.out)⟩⟩
              · replace c9 := Bool.eq_false_iff.mpr c9
                subst c9
                have H1 : (if (rd l0 x1_1) = 93 then (some (wrap64 (x1_1 + 1), true)) else (gjson_validarray.l1 kj4 l0 x1_1)) = some (r1, r2) := by rw [if_neg (show ¬ (false = true) by decide)] at H; exact H
                clear H
                have H := H1
                clear H1
                by_cases c10 : (rd l0 x1_1) = 93
                · rw [if_pos c10] at H
                  have c10b0 : ((rd l0 x1_1) == 93) = true := beq_iff_eq.mpr c10
                  have c10b1 : ((rd l0 x1_1) != 93) = false := bne_eq_false_iff_eq.mpr c10
                  clear c10
                  simp only [Option.some.injEq, Prod.mk.injEq] at H
                  obtain ⟨rfl, rfl⟩ := H
                  go_wp2
                  go_ret2
                  exact ⟨by first | rfl | (simp [errW_none, errW_some] <;> rfl) | (simp [*, errW_none, errW_some] <;> rfl), by repeat (first | (with_reducible first | exact HB.out | apply below_alloc | apply pw_below_drewN | apply below_drew1) | exact HB.out)⟩
                · rw [if_neg c10] at H
                  have c10b0 : ((rd l0 x1_1) == 93) = false := beq_eq_false_iff_ne.mpr c10
                  have c10b1 : ((rd l0 x1_1) != 93) = true := bne_iff_ne.mpr c10
                  have H' := Aside0.mk H
                  clear H
                  go_wp2
                  (try simp only [Act.put, List.setIfInBounds_toArray, List.set_cons_zero, List.set_cons_succ])
                  go_loopg [1] kj4 (fun kq v1 w' => ∃ (x1_3 : Int), v1 = .int .i64 x1_3 ∧ Aside0 (gjson_validarray.l1 kq l0 x1_3 = some (r1, r2)) ∧ Aside0 (kq ≤ kj4) ∧ Aside0 (Below w.heap.size w w'))
                  case atStart => exact ⟨(x1_1), (by first | rfl | (simp; done) | (simp [*]; done)), H', ⟨Nat.le_refl _⟩, ⟨by repeat (first | (with_reducible first | exact HB.out | apply below_alloc | apply pw_below_drewN | apply below_drew1) | exact HB.out)⟩⟩
                  case round =>
                    clear H'
                    try clear c1
                    try clear c2
                    try clear p2
                    try clear c3
                    try clear c3b0
                    try clear p3
                    try clear q3
                    try clear hx3
                    try clear c4
                    try clear c4b0
                    try clear c6
                    try clear c6b0
                    try clear c6b1
                    try clear p6
                    try clear c7
                    try clear c7b0
                    try clear c7b1
                    try clear c8
                    try clear c8b0
                    try clear c8b1
                    try clear c9
                    try clear c10
                    try clear c10b0
                    try clear c10b1
                    try clear hx332_0
                    try clear p2
                    try clear p3
                    try clear p332
                    try clear q3
                    try clear q332
                    obtain ⟨x1_3, rfl, HA, HK3, HB⟩ := hrel
                    cases gk with
                    | zero => exact absurd HA.out (by simp [gjson_validarray.l1])
                    | succ k3 =>
                      have H := HA.out
                      clear HA
                      simp only [gjson_validarray.l1] at H
                      by_cases c11 : x1_3 < (l0.length : Int)
                      · rw [if_pos c11] at H
                        have c11b0 : decide (x1_3 < (l0.length : Int)) = true := decide_eq_true c11
                        clear c11
                        replace H := Option.bind_eq_some_iff.mp H
                        obtain ⟨⟨t333, t334⟩, A120, H⟩ := H
                        replace H : (if t334 = true then ((gjson_validcomma.f k3 l0 t333 93).bind fun bt335 => (if bt335.2 = true then (if 0 ≤ bt335.1 then (if bt335.1 < (l0.length : Int) then (if (rd l0 bt335.1) = 93 then (some (wrap64 (bt335.1 + 1), true)) else (gjson_validarray.l1 k3 l0 (wrap64 (bt335.1 + 1)))) else (none)) else (none)) else (some (bt335.1, false)))) else (some (t333, false))) = some (r1, r2) := H
                        have A12 := Aside0.mk A120
                        clear A120
                        by_cases c13 : t334 = true
                        · subst c13
                          have H1 : ((gjson_validcomma.f k3 l0 t333 93).bind fun bt335 => (if bt335.2 = true then (if 0 ≤ bt335.1 then (if bt335.1 < (l0.length : Int) then (if (rd l0 bt335.1) = 93 then (some (wrap64 (bt335.1 + 1), true)) else (gjson_validarray.l1 k3 l0 (wrap64 (bt335.1 + 1)))) else (none)) else (none)) else (some (bt335.1, false)))) = some (r1, r2) := by rw [if_pos rfl] at H; exact H
                          clear H
                          have H := H1
                          clear H1
                          replace H := Option.bind_eq_some_iff.mp H
                          obtain ⟨⟨t335, t336⟩, A140, H⟩ := H
                          replace H : (if t336 = true then (if 0 ≤ t335 then (if t335 < (l0.length : Int) then (if (rd l0 t335) = 93 then (some (wrap64 (t335 + 1), true)) else (gjson_validarray.l1 k3 l0 (wrap64 (t335 + 1)))) else (none)) else (none)) else (some (t335, false))) = some (r1, r2) := H
                          have A14 := Aside0.mk A140
                          clear A140
                          by_cases c15 : t336 = true
                          · subst c15
                            have H1 : (if 0 ≤ t335 then (if t335 < (l0.length : Int) then (if (rd l0 t335) = 93 then (some (wrap64 (t335 + 1), true)) else (gjson_validarray.l1 k3 l0 (wrap64 (t335 + 1)))) else (none)) else (none)) = some (r1, r2) := by rw [if_pos rfl] at H; exact H
                            clear H
                            have H := H1
                            clear H1
                            by_cases c16 : 0 ≤ t335
                            · rw [if_pos c16] at H
                              have c16b0 : decide (0 ≤ t335) = true := decide_eq_true c16
                              clear c16
                              by_cases c17 : t335 < (l0.length : Int)
                              · rw [if_pos c17] at H
                                have c17b0 : decide (t335 < (l0.length : Int)) = true := decide_eq_true c17
                                clear c17
                                by_cases c18 : (rd l0 t335) = 93
                                · rw [if_pos c18] at H
                                  have c18b0 : ((rd l0 t335) == 93) = true := beq_iff_eq.mpr c18
                                  have c18b1 : ((rd l0 t335) != 93) = false := bne_eq_false_iff_eq.mpr c18
                                  clear c18
                                  simp only [Option.some.injEq, Prod.mk.injEq] at H
                                  obtain ⟨rfl, rfl⟩ := H
                                  go_wp2_with (first | ((with_reducible refine gate_callee (f := 24) rfl ?_); refine goesL_ (some 25) rfl rfl Try.func24 (by kernel_rfl) rfl #[.slice (some ad332) l0.length c0, .int .i64 x1_3] rfl (by (try simp only [List.map_toArray, List.map_cons, List.map_nil]); first | done | rfl | (simp only [List.length_drop, List.length_take]; rfl)) ?_; (with_reducible refine ((IHG.out k3 (by have := HK1.out; have := HJ4.out; have := HK3.out; omega)).2.2  _ _ l0 x1_3 t333 true _ ?side1 ?side2 A12.out).mono ?_); (case side1 => repeat (first | exact (Kd.C_below HR0.out HB.out) | (with_reducible refine Kd.C_alloc ?_ _) | (with_reducible refine Kd.C_drewN ?_ _) | (with_reducible refine Kd.C_drew ?_))); (case side2 => exact HC0.out); rintro e w19 ⟨rfl, hb⟩; refine ⟨_, rfl, ?_⟩; have n0_ := Aside0.mk (below_step (by repeat (first | (with_reducible first | exact HB.out | apply below_alloc | apply pw_below_drewN | apply below_drew1) | exact HB.out)) hb); clear HB; have HB := n0_; clear n0_; (try clear hb); (try clear hb2); (try clear hk); (try clear hi)) | ((with_reducible refine gate_callee (f := 33) rfl ?_); refine goesL_ (some 34) rfl rfl Try.func33 (by kernel_rfl) rfl #[.slice (some ad332) l0.length c0, .int .i64 t333, .int .u8 93] rfl (by (try simp only [List.map_toArray, List.map_cons, List.map_nil]); first | done | rfl | (simp only [List.length_drop, List.length_take]; rfl)) ?_; (with_reducible refine (gjson_validcomma.calls k3 _ _ l0 t333 93 t335 true _ ?side1 ?side2 A14.out).mono ?_); (case side1 => repeat (first | exact (Kd.C_below HR0.out HB.out) | (with_reducible refine Kd.C_alloc ?_ _) | (with_reducible refine Kd.C_drewN ?_ _) | (with_reducible refine Kd.C_drew ?_))); (case side2 => exact HC0.out); rintro e w' ⟨rfl, ⟨nd, rfl⟩⟩; refine ⟨_, rfl, ?_⟩; have p337 : 0 ≤ (t335 : Int) := of_decide_eq_true (by first | (with_reducible assumption) | assumption); have q337 : t335 < (l0.length : Int) := of_decide_eq_true (by first | (with_reducible assumption) | assumption); obtain ⟨ad337, e337, hx337_0⟩ := Kd.at_int HR0.out t335 p337 q337; obtain rfl : ad332 = ad337 := (by injection e337); replace hx337_0 := (HB.out.cell (World.block_lt_of_cell? w _ hx337_0)).trans hx337_0; replace p337 := eq_true p337; replace q337 := eq_true q337))
                                  go_ret2
                                  exact ⟨by first | rfl | (simp [errW_none, errW_some] <;> rfl) | (simp [*, errW_none, errW_some] <;> rfl), by repeat (first | (with_reducible first | exact HB.out | apply below_alloc | apply pw_below_drewN | apply below_drew1) | exact HB.out)⟩
                                · rw [if_neg c18] at H
                                  have c18b0 : ((rd l0 t335) == 93) = false := beq_eq_false_iff_ne.mpr c18
                                  have c18b1 : ((rd l0 t335) != 93) = true := bne_iff_ne.mpr c18
                                  have H' := Aside0.mk H
                                  clear H
                                  go_wp2_with (first | ((with_reducible refine gate_callee (f := 24) rfl ?_); refine goesL_ (some 25) rfl rfl Try.func24 (by kernel_rfl) rfl #[.slice (some ad332) l0.length c0, .int .i64 x1_3] rfl (by (try simp only [List.map_toArray, List.map_cons, List.map_nil]); first | done | rfl | (simp only [List.length_drop, List.length_take]; rfl)) ?_; (with_reducible refine ((IHG.out k3 (by have := HK1.out; have := HJ4.out; have := HK3.out; omega)).2.2  _ _ l0 x1_3 t333 true _ ?side1 ?side2 A12.out).mono ?_); (case side1 => repeat (first | exact (Kd.C_below HR0.out HB.out) | (with_reducible refine Kd.C_alloc ?_ _) | (with_reducible refine Kd.C_drewN ?_ _) | (with_reducible refine Kd.C_drew ?_))); (case side2 => exact HC0.out); rintro e w20 ⟨rfl, hb⟩; refine ⟨_, rfl, ?_⟩; have n0_ := Aside0.mk (below_step (by repeat (first | (with_reducible first | exact HB.out | apply below_alloc | apply pw_below_drewN | apply below_drew1) | exact HB.out)) hb); clear HB; have HB := n0_; clear n0_; (try clear hb); (try clear hb2); (try clear hk); (try clear hi)) | ((with_reducible refine gate_callee (f := 33) rfl ?_); refine goesL_ (some 34) rfl rfl Try.func33 (by kernel_rfl) rfl #[.slice (some ad332) l0.length c0, .int .i64 t333, .int .u8 93] rfl (by (try simp only [List.map_toArray, List.map_cons, List.map_nil]); first | done | rfl | (simp only [List.length_drop, List.length_take]; rfl)) ?_; (with_reducible refine (gjson_validcomma.calls k3 _ _ l0 t333 93 t335 true _ ?side1 ?side2 A14.out).mono ?_); (case side1 => repeat (first | exact (Kd.C_below HR0.out HB.out) | (with_reducible refine Kd.C_alloc ?_ _) | (with_reducible refine Kd.C_drewN ?_ _) | (with_reducible refine Kd.C_drew ?_))); (case side2 => exact HC0.out); rintro e w' ⟨rfl, ⟨nd, rfl⟩⟩; refine ⟨_, rfl, ?_⟩; have p337 : 0 ≤ (t335 : Int) := of_decide_eq_true (by first | (with_reducible assumption) | assumption); have q337 : t335 < (l0.length : Int) := of_decide_eq_true (by first | (with_reducible assumption) | assumption); obtain ⟨ad337, e337, hx337_0⟩ := Kd.at_int HR0.out t335 p337 q337; obtain rfl : ad332 = ad337 := (by injection e337); replace hx337_0 := (HB.out.cell (World.block_lt_of_cell? w _ hx337_0)).trans hx337_0; replace p337 := eq_true p337; replace q337 := eq_true q337))
                                  go_roundg k3
                                  case measure => have := HK1.out; have := HJ4.out; have := HK3.out; omega
                                  case rel => exact ⟨(wrap64 (t335 + 1)), (by first | rfl | (simp; done) | (simp [*]; done)), H', ⟨by have := HK1.out; have := HJ4.out; have := HK3.out; omega⟩, ⟨by repeat (first | (with_reducible first | exact HB.out | apply below_alloc | apply pw_below_drewN | apply below_drew1) | exact HB.out)⟩⟩
                              · rw [if_neg c17] at H
                                exact absurd H (by simp)
                            · rw [if_neg c16] at H
                              exact absurd H (by simp)
                          · replace c15 := Bool.eq_false_iff.mpr c15
                            subst c15
                            have H1 : (some (t335, false)) = some (r1, r2) := by rw [if_neg (show ¬ (false = true) by decide)] at H; exact H
                            clear H
                            have H := H1
                            clear H1
                            simp only [Option.some.injEq, Prod.mk.injEq] at H
                            obtain ⟨rfl, rfl⟩ := H
                            go_wp2_with (first | ((with_reducible refine gate_callee (f := 24) rfl ?_); refine goesL_ (some 25) rfl rfl Try.func24 (by kernel_rfl) rfl #[.slice (some ad332) l0.length c0, .int .i64 x1_3] rfl (by (try simp only [List.map_toArray, List.map_cons, List.map_nil]); first | done | rfl | (simp only [List.length_drop, List.length_take]; rfl)) ?_; (with_reducible refine ((IHG.out k3 (by have := HK1.out; have := HJ4.out; have := HK3.out; omega)).2.2  _ _ l0 x1_3 t333 true _ ?side1 ?side2 A12.out).mono ?_); (case side1 => repeat (first | exact (Kd.C_below HR0.out HB.out) | (with_reducible refine Kd.C_alloc ?_ _) | (with_reducible refine Kd.C_drewN ?_ _) | (with_reducible refine Kd.C_drew ?_))); (case side2 => exact HC0.out); rintro e w21 ⟨rfl, hb⟩; refine ⟨_, rfl, ?_⟩; have n0_ := Aside0.mk (below_step (by repeat (first | (with_reducible first | exact HB.out | apply below_alloc | apply pw_below_drewN | apply below_drew1) | exact HB.out)) hb); clear HB; have HB := n0_; clear n0_; (try clear hb); (try clear hb2); (try clear hk); (try clear hi)) | ((with_reducible refine gate_callee (f := 33) rfl ?_); refine goesL_ (some 34) rfl rfl Try.func33 (by kernel_rfl) rfl #[.slice (some ad332) l0.length c0, .int .i64 t333, .int .u8 93] rfl (by (try simp only [List.map_toArray, List.map_cons, List.map_nil]); first | done | rfl | (simp only [List.length_drop, List.length_take]; rfl)) ?_; (with_reducible refine (gjson_validcomma.calls k3 _ _ l0 t333 93 t335 false _ ?side1 ?side2 A14.out).mono ?_); (case side1 => repeat (first | exact (Kd.C_below HR0.out HB.out) | (with_reducible refine Kd.C_alloc ?_ _) | (with_reducible refine Kd.C_drewN ?_ _) | (with_reducible refine Kd.C_drew ?_))); (case side2 => exact HC0.out); rintro e w' ⟨rfl, ⟨nd, rfl⟩⟩; refine ⟨_, rfl, ?_⟩))
                            go_ret2
                            exact ⟨by first | rfl | (simp [errW_none, errW_some] <;> rfl) | (simp [*, errW_none, errW_some] <;> rfl), by repeat (first | (with_reducible first | exact HB.out | apply below_alloc | apply pw_below_drewN | apply below_drew1) | exact HB.out)⟩
                        · replace c13 := Bool.eq_false_iff.mpr c13
                          subst c13
                          have H1 : (some (t333, false)) = some (r1, r2) := by rw [if_neg (show ¬ (false = true) by decide)] at H; exact H
                          clear H
                          have H := H1
                          clear H1
                          simp only [Option.some.injEq, Prod.mk.injEq] at H
                          obtain ⟨rfl, rfl⟩ := H
                          go_wp2_with (first | ((with_reducible refine gate_callee (f := 24) rfl ?_); refine goesL_ (some 25) rfl rfl Try.func24 (by kernel_rfl) rfl #[.slice (some ad332) l0.length c0, .int .i64 x1_3] rfl (by (try simp only [List.map_toArray, List.map_cons, List.map_nil]); first | done | rfl | (simp only [List.length_drop, List.length_take]; rfl)) ?_; (with_reducible refine ((IHG.out k3 (by have := HK1.out; have := HJ4.out; have := HK3.out; omega)).2.2  _ _ l0 x1_3 t333 false _ ?side1 ?side2 A12.out).mono ?_); (case side1 => repeat (first | exact (Kd.C_below HR0.out HB.out) | (with_reducible refine Kd.C_alloc ?_ _) | (with_reducible refine Kd.C_drewN ?_ _) | (with_reducible refine Kd.C_drew ?_))); (case side2 => exact HC0.out); rintro e w22 ⟨rfl, hb⟩; refine ⟨_, rfl, ?_⟩; have n0_ := Aside0.mk (below_step (by repeat (first | (with_reducible first | exact HB.out | apply below_alloc | apply pw_below_drewN | apply below_drew1) | exact HB.out)) hb); clear HB; have HB := n0_; clear n0_; (try clear hb); (try clear hb2); (try clear hk); (try clear hi)))
                          go_ret2
                          exact ⟨by first | rfl | (simp [errW_none, errW_some] <;> rfl) | (simp [*, errW_none, errW_some] <;> rfl), by repeat (first | (with_reducible first | exact HB.out | apply below_alloc | apply pw_below_drewN | apply below_drew1) | exact HB.out)⟩
                      · rw [if_neg c11] at H
                        have c11b0 : decide (x1_3 < (l0.length : Int)) = false := decide_eq_false c11
                        clear c11
                        have H' := Aside0.mk H
                        clear H
                        go_wp2
                        go_roundg k3
                        case measure => have := HK1.out; have := HJ4.out; have := HK3.out; omega
                        case rel => exact ⟨(wrap64 (x1_3 + 1)), (by first | rfl | (simp; done) | (simp [*]; done)), H', ⟨by have := HK1.out; have := HJ4.out; have := HK3.out; omega⟩, ⟨by repeat (first | (with_reducible first | exact HB.out | apply below_alloc | apply pw_below_drewN | apply below_drew1) | exact HB.out)⟩⟩
        · rw [if_neg c4] at H
          exact absurd H (by simp)
      · rw [if_neg c3] at H
        have c3b0 : decide (x1_1 < (l0.length : Int)) = false := decide_eq_false c3
        clear c3
        simp only [Option.some.injEq, Prod.mk.injEq] at H
        obtain ⟨rfl, rfl⟩ := H
        go_wp2
        go_ret2
        exact ⟨by first | rfl | (simp [errW_none, errW_some] <;> rfl) | (simp [*, errW_none, errW_some] <;> rfl), by repeat (first | (with_reducible first | exact HB.out | apply below_alloc | apply pw_below_drewN | apply below_drew1) | exact HB.out)⟩

/-! ### gjson_validany: function 24 -/
set_option maxHeartbeats 8000000 in
set_option maxRecDepth 100000 in
theorem gjson_validany.step (k : Nat) (ih0_ : ∀ m, m < k → gjson_validobject.At m ∧ gjson_validarray.At m ∧ gjson_validany.At m) : gjson_validany.At k := by
  have IHG := Aside0.mk ih0_
  clear ih0_
  intro A0 c0 l0 a1 r1 r2 w hr0 hc0 h
  cases k with
  | zero => exact absurd h (by simp [gjson_validany.f])
  | succ k =>
  simp only [gjson_validany.f] at h
  have HR0 := Aside0.mk hr0
  have HC0 := Aside0.mk hc0
  clear hr0 hc0
  have HB := Aside0.mk (Below.refl w.heap.size w)
  have H : (gjson_validany.l0 k l0 a1) = some (r1, r2) := h
  clear h
  have H' := Aside0.mk H
  clear H
  go_enter Try.func24, Try.ntmps24
  go_wp2
  (try simp only [Act.put, List.setIfInBounds_toArray, List.set_cons_zero, List.set_cons_succ])
  go_loopg [1] k (fun kq v1 w' => ∃ (x1_1 : Int), v1 = .int .i64 x1_1 ∧ Aside0 (gjson_validany.l0 kq l0 x1_1 = some (r1, r2)) ∧ Aside0 (kq ≤ k) ∧ Aside0 (Below w.heap.size w w'))
  case atStart => exact ⟨(a1), (by first | rfl | (simp; done) | (simp [*]; done)), H', ⟨Nat.le_refl _⟩, ⟨by repeat (first | (with_reducible first | exact HB.out | apply below_alloc | apply pw_below_drewN | apply below_drew1) | exact HB.out)⟩⟩
  case round =>
    clear H'
    try clear c2
    try clear p2
    obtain ⟨x1_1, rfl, HA, HK1, HB⟩ := hrel
    cases gk with
    | zero => exact absurd HA.out (by simp [gjson_validany.l0])
    | succ k1 =>
      have H := HA.out
      clear HA
      simp only [gjson_validany.l0] at H
      by_cases c3 : x1_1 < (l0.length : Int)
      · rw [if_pos c3] at H
        have c3b0 : decide (x1_1 < (l0.length : Int)) = true := decide_eq_true c3
        clear c3
        by_cases c4 : 0 ≤ x1_1
        · rw [if_pos c4] at H
          have c4b0 : decide (0 ≤ x1_1) = true := decide_eq_true c4
          clear c4
          have HC5 := Aside0.mk H
          clear H
          have p338 : 0 ≤ (x1_1 : Int) := of_decide_eq_true (by first | (with_reducible assumption) | assumption)
          have q338 : x1_1 < (l0.length : Int) := of_decide_eq_true (by first | (with_reducible assumption) | assumption)
          obtain ⟨ad338, e338, hx338_0⟩ := Kd.at_int HR0.out x1_1 p338 q338
          cases e338
          replace hx338_0 := (HB.out.cell (World.block_lt_of_cell? w _ hx338_0)).trans hx338_0
          replace p338 := eq_true p338
          replace q338 := eq_true q338
          go_upto_if 17 with (fail)
          go_cut [17] (fun v17 wc => ∃ (kq : Nat) (x17_4 : Bool), v17 = .bool x17_4 ∧ Aside0 (gjson_validany.j1 kq l0 x1_1 (rd l0 x1_1) x17_4 = some (r1, r2)) ∧ Aside0 (kq ≤ k1) ∧ Aside0 (Below w.heap.size w wc))
          case first =>
            have H := HC5.out
            clear HC5
            by_cases c6 : (rd l0 x1_1) = 32
            · rw [if_pos c6] at H
              have c6b0 : ((rd l0 x1_1) == 32) = true := beq_iff_eq.mpr c6
              have c6b1 : ((rd l0 x1_1) != 32) = false := bne_eq_false_iff_eq.mpr c6
              clear c6
              (first | rw [c6b0] | (simp only [i64_w, i32_w]; rw [c6b0]) | skip)
              have H' := Aside0.mk H
              clear H
              go_wp2
              go_meet
              case rel => exact ⟨_, (((rd l0 x1_1) == 32)), (by first | rfl | (simp; done) | (simp [*]; done)), H', ⟨by have := HK1.out; first | omega | exact Nat.le_refl _⟩, ⟨by repeat (first | (with_reducible first | exact HB.out | apply below_alloc | apply pw_below_drewN | apply below_drew1) | exact HB.out)⟩⟩
            · rw [if_neg c6] at H
              have c6b0 : ((rd l0 x1_1) == 32) = false := beq_eq_false_iff_ne.mpr c6
              have c6b1 : ((rd l0 x1_1) != 32) = true := bne_iff_ne.mpr c6
              (first | rw [c6b0] | (simp only [i64_w, i32_w]; rw [c6b0]) | skip)
              by_cases c7 : (rd l0 x1_1) = 9
              · rw [if_pos c7] at H
                have c7b0 : ((rd l0 x1_1) == 9) = true := beq_iff_eq.mpr c7
                have c7b1 : ((rd l0 x1_1) != 9) = false := bne_eq_false_iff_eq.mpr c7
                clear c7
                have H' := Aside0.mk H
                clear H
                go_wp2
                go_meet
                case rel => exact ⟨_, (((rd l0 x1_1) == 9)), (by first | rfl | (simp; done) | (simp [*]; done)), H', ⟨by have := HK1.out; first | omega | exact Nat.le_refl _⟩, ⟨by repeat (first | (with_reducible first | exact HB.out | apply below_alloc | apply pw_below_drewN | apply below_drew1) | exact HB.out)⟩⟩
              · rw [if_neg c7] at H
                have c7b0 : ((rd l0 x1_1) == 9) = false := beq_eq_false_iff_ne.mpr c7
                have c7b1 : ((rd l0 x1_1) != 9) = true := bne_iff_ne.mpr c7
                by_cases c8 : (rd l0 x1_1) = 10
                · rw [if_pos c8] at H
                  have c8b0 : ((rd l0 x1_1) == 10) = true := beq_iff_eq.mpr c8
                  have c8b1 : ((rd l0 x1_1) != 10) = false := bne_eq_false_iff_eq.mpr c8
                  clear c8
                  have H' := Aside0.mk H
                  clear H
                  go_wp2
                  go_meet
                  case rel => exact ⟨_, (((rd l0 x1_1) == 10)), (by first | rfl | (simp; done) | (simp [*]; done)), H', ⟨by have := HK1.out; first | omega | exact Nat.le_refl _⟩, ⟨by repeat (first | (with_reducible first | exact HB.out | apply below_alloc | apply pw_below_drewN | apply below_drew1) | exact HB.out)⟩⟩
                · rw [if_neg c8] at H
                  have c8b0 : ((rd l0 x1_1) == 10) = false := beq_eq_false_iff_ne.mpr c8
                  have c8b1 : ((rd l0 x1_1) != 10) = true := bne_iff_ne.mpr c8
                  have H' := Aside0.mk H
                  clear H
                  go_wp2
                  go_meet
                  case rel => exact ⟨_, (((rd l0 x1_1) == 13)), (by first | rfl | (simp; done) | (simp [*]; done)), H', ⟨by have := HK1.out; first | omega | exact Nat.le_refl _⟩, ⟨by repeat (first | (with_reducible first | exact HB.out | apply below_alloc | apply pw_below_drewN | apply below_drew1) | exact HB.out)⟩⟩
          case rest =>
            clear HC5
            try clear c2
            try clear p2
            try clear c3
            try clear c3b0
            try clear p3
            try clear q3
            try clear hx3
            try clear c4
            try clear c4b0
            try clear c6
            try clear c6b0
            try clear c6b1
            try clear c7
            try clear c7b0
            try clear c7b1
            try clear c8
            try clear c8b0
            try clear c8b1
            try clear hx338_0
            try clear p2
            try clear p338
            try clear q338
            obtain ⟨kq, x17_4, rfl, HA, HJ4, HB⟩ := hcut
            cases kq with
            | zero => exact absurd HA.out (by simp [gjson_validany.j1])
            | succ kj4 =>
              have H := HA.out
              clear HA
              simp only [gjson_validany.j1] at H
              by_cases c9 : x17_4 = true
              · subst c9
                have H1 : (gjson_validany.l0 kj4 l0 (wrap64 (x1_1 + 1))) = some (r1, r2) := by rw [if_pos rfl] at H; exact H
                clear H
                have H := H1
                clear H1
                have H' := Aside0.mk H
                clear H
                go_wp2
                go_roundg kj4
                case measure => have := HK1.out; have := HJ4.out; omega
                case rel => exact ⟨(wrap64 (x1_1 + 1)), (by first | rfl | (simp; done) | (simp [*]; done)), H', ⟨by have := HK1.out; have := HJ4.out; omega⟩, ⟨by repeat (first | (with_reducible first | exact HB.out | apply below_alloc | apply pw_below_drewN | apply below_drew1) | exact HB.out)⟩⟩
              · replace c9 := Bool.eq_false_iff.mpr c9
                subst c9
                have H1 : (if (rd l0 x1_1) = 123 then ((gjson_validobject.f kj4 l0 (wrap64 (x1_1 + 1))).bind fun bt339 => (some (bt339.1, bt339.2))) else (if (rd l0 x1_1) = 91 then ((gjson_validarray.f kj4 l0 (wrap64 (x1_1 + 1))).bind fun bt341 => (some (bt341.1, bt341.2))) else (if (rd l0 x1_1) = 34 then ((gjson_validstring.f kj4 l0 (wrap64 (x1_1 + 1))).bind fun bt343 => (some (bt343.1, bt343.2))) else (if (rd l0 x1_1) = 45 then (gjson_validany.j2 kj4 l0 x1_1 (rd l0 x1_1) ((rd l0 x1_1) == 45)) else (if (rd l0 x1_1) = 48 then (gjson_validany.j2 kj4 l0 x1_1 (rd l0 x1_1) ((rd l0 x1_1) == 48)) else (if (rd l0 x1_1) = 49 then (gjson_validany.j2 kj4 l0 x1_1 (rd l0 x1_1) ((rd l0 x1_1) == 49)) else (if (rd l0 x1_1) = 50 then (gjson_validany.j2 kj4 l0 x1_1 (rd l0 x1_1) ((rd l0 x1_1) == 50)) else (if (rd l0 x1_1) = 51 then (gjson_validany.j2 kj4 l0 x1_1 (rd l0 x1_1) ((rd l0 x1_1) == 51)) else (if (rd l0 x1_1) = 52 then (gjson_validany.j2 kj4 l0 x1_1 (rd l0 x1_1) ((rd l0 x1_1) == 52)) else (if (rd l0 x1_1) = 53 then (gjson_validany.j2 kj4 l0 x1_1 (rd l0 x1_1) ((rd l0 x1_1) == 53)) else (if (rd l0 x1_1) = 54 then (gjson_validany.j2 kj4 l0 x1_1 (rd l0 x1_1) ((rd l0 x1_1) == 54)) else (if (rd l0 x1_1) = 55 then (gjson_validany.j2 kj4 l0 x1_1 (rd l0 x1_1) ((rd l0 x1_1) == 55)) else (if (rd l0 x1_1) = 56 then (gjson_validany.j2 kj4 l0 x1_1 (rd l0 x1_1) ((rd l0 x1_1) == 56)) else (gjson_validany.j2 kj4 l0 x1_1 (rd l0 x1_1) ((rd l0 x1_1) == 57))))))))))))))) = some (r1, r2) := by rw [if_neg (show ¬ (false = true) by decide)] at H; exact H
                clear H
                have H := H1
                clear H1
                by_cases c10 : (rd l0 x1_1) = 123
                · rw [if_pos c10] at H
                  have c10b0 : ((rd l0 x1_1) == 123) = true := beq_iff_eq.mpr c10
                  have c10b1 : ((rd l0 x1_1) != 123) = false := bne_eq_false_iff_eq.mpr c10
                  clear c10
                  replace H := Option.bind_eq_some_iff.mp H
                  obtain ⟨⟨t339, t340⟩, A110, H⟩ := H
                  replace H : (some (t339, t340)) = some (r1, r2) := H
                  have A11 := Aside0.mk A110
                  clear A110
                  simp only [Option.some.injEq, Prod.mk.injEq] at H
                  obtain ⟨rfl, rfl⟩ := H
                  go_wp2_with (first | ((with_reducible refine gate_callee (f := 25) rfl ?_); refine goesL_ (some 27) rfl rfl Try.func25 (by kernel_rfl) rfl #[.slice (some ad338) l0.length c0, .int .i64 (wrap64 (x1_1 + 1))] rfl (by (try simp only [List.map_toArray, List.map_cons, List.map_nil]); first | done | rfl | (simp only [List.length_drop, List.length_take]; rfl)) ?_; (with_reducible refine ((IHG.out kj4 (by have := HK1.out; have := HJ4.out; omega)).1  _ _ l0 (wrap64 (x1_1 + 1)) t339 t340 _ ?side1 ?side2 A11.out).mono ?_); (case side1 => repeat (first | exact (Kd.C_below HR0.out HB.out) | (with_reducible refine Kd.C_alloc ?_ _) | (with_reducible refine Kd.C_drewN ?_ _) | (with_reducible refine Kd.C_drew ?_))); (case side2 => exact HC0.out); rintro e w12 ⟨rfl, hb⟩; refine ⟨_, rfl, ?_⟩; have n0_ := Aside0.mk (below_step (by repeat (first | (with_reducible first | exact HB.out | apply below_alloc | apply pw_below_drewN | apply below_drew1) | exact HB.out)) hb); clear HB; have HB := n0_; clear n0_; (try clear hb); (try clear hb2); (try clear hk); (try clear hi)))
                  go_ret2
                  exact ⟨by first | rfl | (simp [errW_none, errW_some] <;> rfl) | (simp [*, errW_none, errW_some] <;> rfl), by repeat (first | (with_reducible first | exact HB.out | apply below_alloc | apply pw_below_drewN | apply below_drew1) | exact HB.out)⟩
                · rw [if_neg c10] at H
                  have c10b0 : ((rd l0 x1_1) == 123) = false := beq_eq_false_iff_ne.mpr c10
                  have c10b1 : ((rd l0 x1_1) != 123) = true := bne_iff_ne.mpr c10
                  by_cases c13 : (rd l0 x1_1) = 91
                  · rw [if_pos c13] at H
                    have c13b0 : ((rd l0 x1_1) == 91) = true := beq_iff_eq.mpr c13
                    have c13b1 : ((rd l0 x1_1) != 91) = false := bne_eq_false_iff_eq.mpr c13
                    clear c13
                    replace H := Option.bind_eq_some_iff.mp H
                    obtain ⟨⟨t341, t342⟩, A140, H⟩ := H
                    replace H : (some (t341, t342)) = some (r1, r2) := H
                    have A14 := Aside0.mk A140
                    clear A140
                    simp only [Option.some.injEq, Prod.mk.injEq] at H
                    obtain ⟨rfl, rfl⟩ := H
                    go_wp2_with (first | ((with_reducible refine gate_callee (f := 26) rfl ?_); refine goesL_ (some 35) rfl rfl Try.func26 (by kernel_rfl) rfl #[.slice (some ad338) l0.length c0, .int .i64 (wrap64 (x1_1 + 1))] rfl (by (try simp only [List.map_toArray, List.map_cons, List.map_nil]); first | done | rfl | (simp only [List.length_drop, List.length_take]; rfl)) ?_; (with_reducible refine ((IHG.out kj4 (by have := HK1.out; have := HJ4.out; omega)).2.1  _ _ l0 (wrap64 (x1_1 + 1)) t341 t342 _ ?side1 ?side2 A14.out).mono ?_); (case side1 => repeat (first | exact (Kd.C_below HR0.out HB.out) | (with_reducible refine Kd.C_alloc ?_ _) | (with_reducible refine Kd.C_drewN ?_ _) | (with_reducible refine Kd.C_drew ?_))); (case side2 => exact HC0.out); rintro e w15 ⟨rfl, hb⟩; refine ⟨_, rfl, ?_⟩; have n0_ := Aside0.mk (below_step (by repeat (first | (with_reducible first | exact HB.out | apply below_alloc | apply pw_below_drewN | apply below_drew1) | exact HB.out)) hb); clear HB; have HB := n0_; clear n0_; (try clear hb); (try clear hb2); (try clear hk); (try clear hi)))
                    go_ret2
                    exact ⟨by first | rfl | (simp [errW_none, errW_some] <;> rfl) | (simp [*, errW_none, errW_some] <;> rfl), by repeat (first | (with_reducible first | exact HB.out | apply below_alloc | apply pw_below_drewN | apply below_drew1) | exact HB.out)⟩
                  · rw [if_neg c13] at H
                    have c13b0 : ((rd l0 x1_1) == 91) = false := beq_eq_false_iff_ne.mpr c13
                    have c13b1 : ((rd l0 x1_1) != 91) = true := bne_iff_ne.mpr c13
                    by_cases c16 : (rd l0 x1_1) = 34
                    · rw [if_pos c16] at H
                      have c16b0 : ((rd l0 x1_1) == 34) = true := beq_iff_eq.mpr c16
                      have c16b1 : ((rd l0 x1_1) != 34) = false := bne_eq_false_iff_eq.mpr c16
                      clear c16
                      replace H := Option.bind_eq_some_iff.mp H
                      obtain ⟨⟨t343, t344⟩, A170, H⟩ := H
                      replace H : (some (t343, t344)) = some (r1, r2) := H
                      have A17 := Aside0.mk A170
                      clear A170
                      simp only [Option.some.injEq, Prod.mk.injEq] at H
                      obtain ⟨rfl, rfl⟩ := H
                      go_wp2_with (first | ((with_reducible refine gate_callee (f := 27) rfl ?_); refine goesL_ (some 43) rfl rfl Try.func27 (by kernel_rfl) rfl #[.slice (some ad338) l0.length c0, .int .i64 (wrap64 (x1_1 + 1))] rfl (by (try simp only [List.map_toArray, List.map_cons, List.map_nil]); first | done | rfl | (simp only [List.length_drop, List.length_take]; rfl)) ?_; (with_reducible refine (gjson_validstring.calls kj4 _ _ l0 (wrap64 (x1_1 + 1)) t343 t344 _ ?side1 ?side2 A17.out).mono ?_); (case side1 => repeat (first | exact (Kd.C_below HR0.out HB.out) | (with_reducible refine Kd.C_alloc ?_ _) | (with_reducible refine Kd.C_drewN ?_ _) | (with_reducible refine Kd.C_drew ?_))); (case side2 => exact HC0.out); rintro e w' ⟨rfl, ⟨nd, rfl⟩⟩; refine ⟨_, rfl, ?_⟩))
                      go_ret2
                      exact ⟨by first | rfl | (simp [errW_none, errW_some] <;> rfl) | (simp [*, errW_none, errW_some] <;> rfl), by repeat (first | (with_reducible first | exact HB.out | apply below_alloc | apply pw_below_drewN | apply below_drew1) | exact HB.out)⟩
                    · rw [if_neg c16] at H
                      have c16b0 : ((rd l0 x1_1) == 34) = false := beq_eq_false_iff_ne.mpr c16
                      have c16b1 : ((rd l0 x1_1) != 34) = true := bne_iff_ne.mpr c16
                      have HC18 := Aside0.mk H
                      clear H
                      go_upto_if 46 with (fail)
                      go_cut [46] (fun v46 wc => ∃ (kq : Nat) (x46_17 : Bool), v46 = .bool x46_17 ∧ Aside0 (gjson_validany.j2 kq l0 x1_1 (rd l0 x1_1) x46_17 = some (r1, r2)) ∧ Aside0 (kq ≤ kj4) ∧ Aside0 (Below w.heap.size w wc))
                      case first =>
                        have H := HC18.out
                        clear HC18
                        by_cases c19 : (rd l0 x1_1) = 45
                        · rw [if_pos c19] at H
                          have c19b0 : ((rd l0 x1_1) == 45) = true := beq_iff_eq.mpr c19
                          have c19b1 : ((rd l0 x1_1) != 45) = false := bne_eq_false_iff_eq.mpr c19
                          clear c19
                          (first | rw [c19b0] | (simp only [i64_w, i32_w]; rw [c19b0]) | skip)
                          have H' := Aside0.mk H
                          clear H
                          go_wp2
                          go_meet
                          case rel => exact ⟨_, (((rd l0 x1_1) == 45)), (by first | rfl | (simp; done) | (simp [*]; done)), H', ⟨by have := HK1.out; have := HJ4.out; first | omega | exact Nat.le_refl _⟩, ⟨by repeat (first | (with_reducible first | exact HB.out | apply below_alloc | apply pw_below_drewN | apply below_drew1) | exact HB.out)⟩⟩
                        · rw [if_neg c19] at H
                          have c19b0 : ((rd l0 x1_1) == 45) = false := beq_eq_false_iff_ne.mpr c19
                          have c19b1 : ((rd l0 x1_1) != 45) = true := bne_iff_ne.mpr c19
                          (first | rw [c19b0] | (simp only [i64_w, i32_w]; rw [c19b0]) | skip)
                          by_cases c20 : (rd l0 x1_1) = 48
                          · rw [if_pos c20] at H
                            have c20b0 : ((rd l0 x1_1) == 48) = true := beq_iff_eq.mpr c20
                            have c20b1 : ((rd l0 x1_1) != 48) = false := bne_eq_false_iff_eq.mpr c20
                            clear c20
                            have H' := Aside0.mk H
                            clear H
                            go_wp2
                            go_meet
                            case rel => exact ⟨_, (((rd l0 x1_1) == 48)), (by first | rfl | (simp; done) | (simp [*]; done)), H', ⟨by have := HK1.out; have := HJ4.out; first | omega | exact Nat.le_refl _⟩, ⟨by repeat (first | (with_reducible first | exact HB.out | apply below_alloc | apply pw_below_drewN | apply below_drew1) | exact HB.out)⟩⟩
                          · rw [if_neg c20] at H
                            have c20b0 : ((rd l0 x1_1) == 48) = false := beq_eq_false_iff_ne.mpr c20
                            have c20b1 : ((rd l0 x1_1) != 48) = true := bne_iff_ne.mpr c20
                            by_cases c21 : (rd l0 x1_1) = 49
                            · rw [if_pos c21] at H
                              have c21b0 : ((rd l0 x1_1) == 49) = true := beq_iff_eq.mpr c21
                              have c21b1 : ((rd l0 x1_1) != 49) = false := bne_eq_false_iff_eq.mpr c21
                              clear c21
                              have H' := Aside0.mk H
                              clear H
                              go_wp2
                              go_meet
                              case rel => exact ⟨_, (((rd l0 x1_1) == 49)), (by first | rfl | (simp; done) | (simp [*]; done)), H', ⟨by have := HK1.out; have := HJ4.out; first | omega | exact Nat.le_refl _⟩, ⟨by repeat (first | (with_reducible first | exact HB.out | apply below_alloc | apply pw_below_drewN | apply below_drew1) | exact HB.out)⟩⟩
                            · rw [if_neg c21] at H
                              have c21b0 : ((rd l0 x1_1) == 49) = false := beq_eq_false_iff_ne.mpr c21
                              have c21b1 : ((rd l0 x1_1) != 49) = true := bne_iff_ne.mpr c21
                              by_cases c22 : (rd l0 x1_1) = 50
                              · rw [if_pos c22] at H
                                have c22b0 : ((rd l0 x1_1) == 50) = true := beq_iff_eq.mpr c22
                                have c22b1 : ((rd l0 x1_1) != 50) = false := bne_eq_false_iff_eq.mpr c22
                                clear c22
                                have H' := Aside0.mk H
                                clear H
                                go_wp2
                                go_meet
                                case rel => exact ⟨_, (((rd l0 x1_1) == 50)), (by first | rfl | (simp; done) | (simp [*]; done)), H', ⟨by have := HK1.out; have := HJ4.out; first | omega | exact Nat.le_refl _⟩, ⟨by repeat (first | (with_reducible first | exact HB.out | apply below_alloc | apply pw_below_drewN | apply below_drew1) | exact HB.out)⟩⟩
                              · rw [if_neg c22] at H
                                have c22b0 : ((rd l0 x1_1) == 50) = false := beq_eq_false_iff_ne.mpr c22
                                have c22b1 : ((rd l0 x1_1) != 50) = true := bne_iff_ne.mpr c22
                                by_cases c23 : (rd l0 x1_1) = 51
                                · rw [if_pos c23] at H
                                  have c23b0 : ((rd l0 x1_1) == 51) = true := beq_iff_eq.mpr c23
                                  have c23b1 : ((rd l0 x1_1) != 51) = false := bne_eq_false_iff_eq.mpr c23
                                  clear c23
                                  have H' := Aside0.mk H
                                  clear H
                                  go_wp2
                                  go_meet
                                  case rel => exact ⟨_, (((rd l0 x1_1) == 51)), (by first | rfl | (simp; done) | (simp [*]; done)), H', ⟨by have := HK1.out; have := HJ4.out; first | omega | exact Nat.le_refl _⟩, ⟨by repeat (first | (with_reducible first | exact HB.out | apply below_alloc | apply pw_below_drewN | apply below_drew1) | exact HB.out)⟩⟩
                                · rw [if_neg c23] at H
                                  have c23b0 : ((rd l0 x1_1) == 51) = false := beq_eq_false_iff_ne.mpr c23
                                  have c23b1 : ((rd l0 x1_1) != 51) = true := bne_iff_ne.mpr c23
                                  by_cases c24 : (rd l0 x1_1) = 52
                                  · rw [if_pos c24] at H
                                    have c24b0 : ((rd l0 x1_1) == 52) = true := beq_iff_eq.mpr c24
                                    have c24b1 : ((rd l0 x1_1) != 52) = false := bne_eq_false_iff_eq.mpr c24
                                    clear c24
                                    have H' := Aside0.mk H
                                    clear H
                                    go_wp2
                                    go_meet
                                    case rel => exact ⟨_, (((rd l0 x1_1) == 52)), (by first | rfl | (simp; done) | (simp [*]; done)), H', ⟨by have := HK1.out; have := HJ4.out; first | omega | exact Nat.le_refl _⟩, ⟨by repeat (first | (with_reducible first | exact HB.out | apply below_alloc | apply pw_below_drewN | apply below_drew1) | exact HB.out)⟩⟩
                                  · rw [if_neg c24] at H
                                    have c24b0 : ((rd l0 x1_1) == 52) = false := beq_eq_false_iff_ne.mpr c24
                                    have c24b1 : ((rd l0 x1_1) != 52) = true := bne_iff_ne.mpr c24
                                    by_cases c25 : (rd l0 x1_1) = 53
                                    · rw [if_pos c25] at H
                                      have c25b0 : ((rd l0 x1_1) == 53) = true := beq_iff_eq.mpr c25
                                      have c25b1 : ((rd l0 x1_1) != 53) = false := bne_eq_false_iff_eq.mpr c25
                                      clear c25
                                      have H' := Aside0.mk H
                                      clear H
                                      go_wp2
                                      go_meet
                                      case rel => exact ⟨_, (((rd l0 x1_1) == 53)), (by first | rfl | (simp; done) | (simp [*]; done)), H', ⟨by have := HK1.out; have := HJ4.out; first | omega | exact Nat.le_refl _⟩, ⟨by repeat (first | (with_reducible first | exact HB.out | apply below_alloc | apply pw_below_drewN | apply below_drew1) | exact HB.out)⟩⟩
                                    · rw [if_neg c25] at H
                                      have c25b0 : ((rd l0 x1_1) == 53) = false := beq_eq_false_iff_ne.mpr c25
                                      have c25b1 : ((rd l0 x1_1) != 53) = true := bne_iff_ne.mpr c25
                                      by_cases c26 : (rd l0 x1_1) = 54
                                      · rw [if_pos c26] at H
                                        have c26b0 : ((rd l0 x1_1) == 54) = true := beq_iff_eq.mpr c26
                                        have c26b1 : ((rd l0 x1_1) != 54) = false := bne_eq_false_iff_eq.mpr c26
                                        clear c26
                                        have H' := Aside0.mk H
                                        clear H
                                        go_wp2
                                        go_meet
                                        case rel => exact ⟨_, (((rd l0 x1_1) == 54)), (by first | rfl | (simp; done) | (simp [*]; done)), H', ⟨by have := HK1.out; have := HJ4.out; first | omega | exact Nat.le_refl _⟩, ⟨by repeat (first | (with_reducible first | exact HB.out | apply below_alloc | apply pw_below_drewN | apply below_drew1) | exact HB.out)⟩⟩
                                      · rw [if_neg c26] at H
                                        have c26b0 : ((rd l0 x1_1) == 54) = false := beq_eq_false_iff_ne.mpr c26
                                        have c26b1 : ((rd l0 x1_1) != 54) = true := bne_iff_ne.mpr c26
                                        by_cases c27 : (rd l0 x1_1) = 55
                                        · rw [if_pos c27] at H
                                          have c27b0 : ((rd l0 x1_1) == 55) = true := beq_iff_eq.mpr c27
                                          have c27b1 : ((rd l0 x1_1) != 55) = false := bne_eq_false_iff_eq.mpr c27
                                          clear c27
                                          have H' := Aside0.mk H
                                          clear H
                                          go_wp2
                                          go_meet
                                          case rel => exact ⟨_, (((rd l0 x1_1) == 55)), (by first | rfl | (simp; done) | (simp [*]; done)), H', ⟨by have := HK1.out; have := HJ4.out; first | omega | exact Nat.le_refl _⟩, ⟨by repeat (first | (with_reducible first | exact HB.out | apply below_alloc | apply pw_below_drewN | apply below_drew1) | exact HB.out)⟩⟩
                                        · rw [if_neg c27] at H
                                          have c27b0 : ((rd l0 x1_1) == 55) = false := beq_eq_false_iff_ne.mpr c27
                                          have c27b1 : ((rd l0 x1_1) != 55) = true := bne_iff_ne.mpr c27
                                          by_cases c28 : (rd l0 x1_1) = 56
                                          · rw [if_pos c28] at H
                                            have c28b0 : ((rd l0 x1_1) == 56) = true := beq_iff_eq.mpr c28
                                            have c28b1 : ((rd l0 x1_1) != 56) = false := bne_eq_false_iff_eq.mpr c28
                                            clear c28
                                            have H' := Aside0.mk H
                                            clear H
                                            go_wp2
                                            go_meet
                                            case rel => exact ⟨_, (((rd l0 x1_1) == 56)), (by first | rfl | (simp; done) | (simp [*]; done)), H', ⟨by have := HK1.out; have := HJ4.out; first | omega | exact Nat.le_refl _⟩, ⟨by repeat (first | (with_reducible first | exact HB.out | apply below_alloc | apply pw_below_drewN | apply below_drew1) | exact HB.out)⟩⟩
                                          · rw [if_neg c28] at H
                                            have c28b0 : ((rd l0 x1_1) == 56) = false := beq_eq_false_iff_ne.mpr c28
                                            have c28b1 : ((rd l0 x1_1) != 56) = true := bne_iff_ne.mpr c28
                                            have H' := Aside0.mk H
                                            clear H
                                            go_wp2
                                            go_meet
                                            case rel => exact ⟨_, (((rd l0 x1_1) == 57)), (by first | rfl | (simp; done) | (simp [*]; done)), H', ⟨by have := HK1.out; have := HJ4.out; first | omega | exact Nat.le_refl _⟩, ⟨by repeat (first | (with_reducible first | exact HB.out | apply below_alloc | apply pw_below_drewN | apply below_drew1) | exact HB.out)⟩⟩
                      case rest =>
                        clear HC18
                        try clear c1
                        try clear c2
                        try clear p2
                        try clear c3
                        try clear c3b0
                        try clear p3
                        try clear q3
                        try clear hx3
                        try clear c4
                        try clear c4b0
                        try clear c6
                        try clear c6b0
                        try clear c6b1
                        try clear p6
                        try clear c7
                        try clear c7b0
                        try clear c7b1
                        try clear c8
                        try clear c8b0
                        try clear c8b1
                        try clear c9
                        try clear c10
                        try clear c10b0
                        try clear c10b1
                        try clear c13
                        try clear c13b0
                        try clear c13b1
                        try clear c16
                        try clear c16b0
                        try clear c16b1
                        try clear c19
                        try clear c19b0
                        try clear c19b1
                        try clear c20
                        try clear c20b0
                        try clear c20b1
                        try clear c21
                        try clear c21b0
                        try clear c21b1
                        try clear c22
                        try clear c22b0
                        try clear c22b1
                        try clear c23
                        try clear c23b0
                        try clear c23b1
                        try clear c24
                        try clear c24b0
                        try clear c24b1
                        try clear c25
                        try clear c25b0
                        try clear c25b1
                        try clear c26
                        try clear c26b0
                        try clear c26b1
                        try clear c27
                        try clear c27b0
                        try clear c27b1
                        try clear c28
                        try clear c28b0
                        try clear c28b1
                        try clear hx338_0
                        try clear p2
                        try clear p3
                        try clear p338
                        try clear q3
                        try clear q338
                        obtain ⟨kq, x46_17, rfl, HA, HJ17, HB⟩ := hcut
                        cases kq with
                        | zero => exact absurd HA.out (by simp [gjson_validany.j2])
                        | succ kj17 =>
                          have H := HA.out
                          clear HA
                          simp only [gjson_validany.j2] at H
                          by_cases c29 : x46_17 = true
                          · subst c29
                            have H1 : ((gjson_validnumber.f kj17 l0 (wrap64 (x1_1 + 1))).bind fun bt345 => (some (bt345.1, bt345.2))) = some (r1, r2) := by rw [if_pos rfl] at H; exact H
                            clear H
                            have H := H1
                            clear H1
                            replace H := Option.bind_eq_some_iff.mp H
                            obtain ⟨⟨t345, t346⟩, A300, H⟩ := H
                            replace H : (some (t345, t346)) = some (r1, r2) := H
                            have A30 := Aside0.mk A300
                            clear A300
                            simp only [Option.some.injEq, Prod.mk.injEq] at H
                            obtain ⟨rfl, rfl⟩ := H
                            go_wp2_with (first | ((with_reducible refine gate_callee (f := 28) rfl ?_); refine goesL_ (some 61) rfl rfl Try.func28 (by kernel_rfl) rfl #[.slice (some ad338) l0.length c0, .int .i64 (wrap64 (x1_1 + 1))] rfl (by (try simp only [List.map_toArray, List.map_cons, List.map_nil]); first | done | rfl | (simp only [List.length_drop, List.length_take]; rfl)) ?_; (with_reducible refine (gjson_validnumber.calls kj17 _ _ l0 (wrap64 (x1_1 + 1)) t345 t346 _ ?side1 ?side2 A30.out).mono ?_); (case side1 => repeat (first | exact (Kd.C_below HR0.out HB.out) | (with_reducible refine Kd.C_alloc ?_ _) | (with_reducible refine Kd.C_drewN ?_ _) | (with_reducible refine Kd.C_drew ?_))); (case side2 => exact HC0.out); rintro e w' ⟨rfl, ⟨nd, rfl⟩⟩; refine ⟨_, rfl, ?_⟩))
                            go_ret2
                            exact ⟨by first | rfl | (simp [errW_none, errW_some] <;> rfl) | (simp [*, errW_none, errW_some] <;> rfl), by repeat (first | (with_reducible first | exact HB.out | apply below_alloc | apply pw_below_drewN | apply below_drew1) | exact HB.out)⟩
                          · replace c29 := Bool.eq_false_iff.mpr c29
                            subst c29
                            have H1 : (if (rd l0 x1_1) = 116 then ((gjson_validtrue.f l0 (wrap64 (x1_1 + 1))).bind fun bt347 => (some (bt347.1, bt347.2))) else (if (rd l0 x1_1) = 102 then ((gjson_validfalse.f l0 (wrap64 (x1_1 + 1))).bind fun bt349 => (some (bt349.1, bt349.2))) else (if (rd l0 x1_1) = 110 then ((gjson_validnull.f l0 (wrap64 (x1_1 + 1))).bind fun bt351 => (some (bt351.1, bt351.2))) else (some (x1_1, false))))) = some (r1, r2) := by rw [if_neg (show ¬ (false = true) by decide)] at H; exact H
                            clear H
                            have H := H1
                            clear H1
                            by_cases c31 : (rd l0 x1_1) = 116
                            · rw [if_pos c31] at H
                              have c31b0 : ((rd l0 x1_1) == 116) = true := beq_iff_eq.mpr c31
                              have c31b1 : ((rd l0 x1_1) != 116) = false := bne_eq_false_iff_eq.mpr c31
                              clear c31
                              replace H := Option.bind_eq_some_iff.mp H
                              obtain ⟨⟨t347, t348⟩, A320, H⟩ := H
                              replace H : (some (t347, t348)) = some (r1, r2) := H
                              have A32 := Aside0.mk A320
                              clear A320
                              simp only [Option.some.injEq, Prod.mk.injEq] at H
                              obtain ⟨rfl, rfl⟩ := H
                              go_wp2_with (first | ((with_reducible refine gate_callee (f := 29) rfl ?_); refine goesL_ (some 69) rfl rfl Try.func29 (by kernel_rfl) rfl #[.slice (some ad338) l0.length c0, .int .i64 (wrap64 (x1_1 + 1))] rfl (by (try simp only [List.map_toArray, List.map_cons, List.map_nil]); first | done | rfl | (simp only [List.length_drop, List.length_take]; rfl)) ?_; (with_reducible refine (gjson_validtrue.calls _ _ l0 (wrap64 (x1_1 + 1)) t347 t348 _ ?side1 ?side2 A32.out).mono ?_); (case side1 => repeat (first | exact (Kd.C_below HR0.out HB.out) | (with_reducible refine Kd.C_alloc ?_ _) | (with_reducible refine Kd.C_drewN ?_ _) | (with_reducible refine Kd.C_drew ?_))); (case side2 => exact HC0.out); rintro e w' ⟨rfl, ⟨nd, rfl⟩⟩; refine ⟨_, rfl, ?_⟩))
                              go_ret2
                              exact ⟨by first | rfl | (simp [errW_none, errW_some] <;> rfl) | (simp [*, errW_none, errW_some] <;> rfl), by repeat (first | (with_reducible first | exact HB.out | apply below_alloc | apply pw_below_drewN | apply below_drew1) | exact HB.out)⟩
                            · rw [if_neg c31] at H
                              have c31b0 : ((rd l0 x1_1) == 116) = false := beq_eq_false_iff_ne.mpr c31
                              have c31b1 : ((rd l0 x1_1) != 116) = true := bne_iff_ne.mpr c31
                              by_cases c33 : (rd l0 x1_1) = 102
                              · rw [if_pos c33] at H
                                have c33b0 : ((rd l0 x1_1) == 102) = true := beq_iff_eq.mpr c33
                                have c33b1 : ((rd l0 x1_1) != 102) = false := bne_eq_false_iff_eq.mpr c33
                                clear c33
                                replace H := Option.bind_eq_some_iff.mp H
                                obtain ⟨⟨t349, t350⟩, A340, H⟩ := H
                                replace H : (some (t349, t350)) = some (r1, r2) := H
                                have A34 := Aside0.mk A340
                                clear A340
                                simp only [Option.some.injEq, Prod.mk.injEq] at H
                                obtain ⟨rfl, rfl⟩ := H
                                go_wp2_with (first | ((with_reducible refine gate_callee (f := 30) rfl ?_); refine goesL_ (some 77) rfl rfl Try.func30 (by kernel_rfl) rfl #[.slice (some ad338) l0.length c0, .int .i64 (wrap64 (x1_1 + 1))] rfl (by (try simp only [List.map_toArray, List.map_cons, List.map_nil]); first | done | rfl | (simp only [List.length_drop, List.length_take]; rfl)) ?_; (with_reducible refine (gjson_validfalse.calls _ _ l0 (wrap64 (x1_1 + 1)) t349 t350 _ ?side1 ?side2 A34.out).mono ?_); (case side1 => repeat (first | exact (Kd.C_below HR0.out HB.out) | (with_reducible refine Kd.C_alloc ?_ _) | (with_reducible refine Kd.C_drewN ?_ _) | (with_reducible refine Kd.C_drew ?_))); (case side2 => exact HC0.out); rintro e w' ⟨rfl, ⟨nd, rfl⟩⟩; refine ⟨_, rfl, ?_⟩))
                                go_ret2
                                exact ⟨by first | rfl | (simp [errW_none, errW_some] <;> rfl) | (simp [*, errW_none, errW_some] <;> rfl), by repeat (first | (with_reducible first | exact HB.out | apply below_alloc | apply pw_below_drewN | apply below_drew1) | exact HB.out)⟩
                              · rw [if_neg c33] at H
                                have c33b0 : ((rd l0 x1_1) == 102) = false := beq_eq_false_iff_ne.mpr c33
                                have c33b1 : ((rd l0 x1_1) != 102) = true := bne_iff_ne.mpr c33
                                by_cases c35 : (rd l0 x1_1) = 110
                                · rw [if_pos c35] at H
                                  have c35b0 : ((rd l0 x1_1) == 110) = true := beq_iff_eq.mpr c35
                                  have c35b1 : ((rd l0 x1_1) != 110) = false := bne_eq_false_iff_eq.mpr c35
                                  clear c35
                                  replace H := Option.bind_eq_some_iff.mp H
                                  obtain ⟨⟨t351, t352⟩, A360, H⟩ := H
                                  replace H : (some (t351, t352)) = some (r1, r2) := H
                                  have A36 := Aside0.mk A360
                                  clear A360
                                  simp only [Option.some.injEq, Prod.mk.injEq] at H
                                  obtain ⟨rfl, rfl⟩ := H
                                  go_wp2_with (first | ((with_reducible refine gate_callee (f := 31) rfl ?_); refine goesL_ (some 85) rfl rfl Try.func31 (by kernel_rfl) rfl #[.slice (some ad338) l0.length c0, .int .i64 (wrap64 (x1_1 + 1))] rfl (by (try simp only [List.map_toArray, List.map_cons, List.map_nil]); first | done | rfl | (simp only [List.length_drop, List.length_take]; rfl)) ?_; (with_reducible refine (gjson_validnull.calls _ _ l0 (wrap64 (x1_1 + 1)) t351 t352 _ ?side1 ?side2 A36.out).mono ?_); (case side1 => repeat (first | exact (Kd.C_below HR0.out HB.out) | (with_reducible refine Kd.C_alloc ?_ _) | (with_reducible refine Kd.C_drewN ?_ _) | (with_reducible refine Kd.C_drew ?_))); (case side2 => exact HC0.out); rintro e w' ⟨rfl, ⟨nd, rfl⟩⟩; refine ⟨_, rfl, ?_⟩))
                                  go_ret2
                                  exact ⟨by first | rfl | (simp [errW_none, errW_some] <;> rfl) | (simp [*, errW_none, errW_some] <;> rfl), by repeat (first | (with_reducible first | exact HB.out | apply below_alloc | apply pw_below_drewN | apply below_drew1) | exact HB.out)⟩
                                · rw [if_neg c35] at H
                                  have c35b0 : ((rd l0 x1_1) == 110) = false := beq_eq_false_iff_ne.mpr c35
                                  have c35b1 : ((rd l0 x1_1) != 110) = true := bne_iff_ne.mpr c35
                                  simp only [Option.some.injEq, Prod.mk.injEq] at H
                                  obtain ⟨rfl, rfl⟩ := H
                                  go_wp2
                                  go_ret2
                                  exact ⟨by first | rfl | (simp [errW_none, errW_some] <;> rfl) | (simp [*, errW_none, errW_some] <;> rfl), by repeat (first | (with_reducible first | exact HB.out | apply below_alloc | apply pw_below_drewN | apply below_drew1) | exact HB.out)⟩
        · rw [if_neg c4] at H
          exact absurd H (by simp)
      · rw [if_neg c3] at H
        have c3b0 : decide (x1_1 < (l0.length : Int)) = false := decide_eq_false c3
        clear c3
        simp only [Option.some.injEq, Prod.mk.injEq] at H
        obtain ⟨rfl, rfl⟩ := H
        go_wp2
        go_ret2
        exact ⟨by first | rfl | (simp [errW_none, errW_some] <;> rfl) | (simp [*, errW_none, errW_some] <;> rfl), by repeat (first | (with_reducible first | exact HB.out | apply below_alloc | apply pw_below_drewN | apply below_drew1) | exact HB.out)⟩

theorem grp_gjson_validobject.all (k : Nat) : gjson_validobject.At k ∧ gjson_validarray.At k ∧ gjson_validany.At k := by
  induction k using Nat.strongRecOn with
  | _ k ih => exact ⟨gjson_validobject.step k ih, gjson_validarray.step k ih, gjson_validany.step k ih⟩
theorem gjson_validobject.calls (k : Nat) : gjson_validobject.At k := (grp_gjson_validobject.all k).1
theorem gjson_validarray.calls (k : Nat) : gjson_validarray.At k := (grp_gjson_validobject.all k).2.1
theorem gjson_validany.calls (k : Nat) : gjson_validany.At k := (grp_gjson_validobject.all k).2.2

end Go.Proofs.Ytmbengbkeelpaaa.PFnGjIfValid
