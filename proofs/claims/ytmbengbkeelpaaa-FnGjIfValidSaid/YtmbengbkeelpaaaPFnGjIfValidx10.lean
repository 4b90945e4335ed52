-- Written for this claim by this session's own program (wip/xprint).
import Derived.Test.YtmbengbkeelpaaaPFnGjIfValidx0
import Derived.Test.YtmbengbkeelpaaaPFnGjIfValidx5
import Derived.Test.YtmbengbkeelpaaaPFnGjIfValidx6
import Derived.Test.YtmbengbkeelpaaaPFnGjIfValidx9
namespace Go.Proofs.Ytmbengbkeelpaaa.PFnGjIfValid
open Go.RowKit Go.Proofs.YtmbengbkeelpaaaW.PrintWords Go.Proofs.YtmbengbkeelpaaaW.PrintLast Go.Proofs.YtmbengbkeelpaaaW.PrintMore
attribute [local go_sem] max2_int min2_int max_two min_two max_three min_three max_four min_four   -- for this text's walks alone
set_option linter.unusedVariables false
set_option linter.unusedSimpArgs false

/-! ### gjson_validobject: function 25 -/
set_option maxHeartbeats 8000000 in
set_option maxRecDepth 100000 in
theorem gjson_validobject.step (k : Nat) (ih0_ : ∀ m, m < k → gjson_validobject.At m ∧ gjson_validarray.At m ∧ gjson_validany.At m) : gjson_validobject.At k := by
  have IHG := Aside0.mk ih0_
  clear ih0_
  intro A0 c0 l0 a1 r1 r2 w hr0 hc0 h
  cases k with
  | zero => exact absurd h (by simp [gjson_validobject.f])
  | succ k =>
  simp only [gjson_validobject.f] at h
  have HR0 := Aside0.mk hr0
  have HC0 := Aside0.mk hc0
  clear hr0 hc0
  have HB := Aside0.mk (Below.refl w.heap.size w)
  have H : (gjson_validobject.l0 k l0 a1) = some (r1, r2) := h
  clear h
  have H' := Aside0.mk H
  clear H
  go_enter Try.func25, Try.ntmps25
  go_wp2
  (try simp only [Act.put, List.setIfInBounds_toArray, List.set_cons_zero, List.set_cons_succ])
  go_loopg [1] k (fun kq v1 w' => ∃ (x1_1 : Int), v1 = .int .i64 x1_1 ∧ Aside0 (gjson_validobject.l0 kq l0 x1_1 = some (r1, r2)) ∧ Aside0 (kq ≤ k) ∧ Aside0 (Below w.heap.size w w'))
  case atStart => exact ⟨(a1), (by first | rfl | (simp; done) | (simp [*]; done)), H', ⟨Nat.le_refl _⟩, ⟨by repeat (first | (with_reducible first | exact HB.out | apply below_alloc | apply pw_below_drewN | apply below_drew1) | exact HB.out)⟩⟩
  case round =>
    clear H'
    try clear c2
    try clear p2
    obtain ⟨x1_1, rfl, HA, HK1, HB⟩ := hrel
    cases gk with
    | zero => exact absurd HA.out (by simp [gjson_validobject.l0])
    | succ k1 =>
      have H := HA.out
      clear HA
      simp only [gjson_validobject.l0] at H
      by_cases c3 : x1_1 < (l0.length : Int)
      · rw [if_pos c3] at H
        have c3b0 : decide (x1_1 < (l0.length : Int)) = true := decide_eq_true c3
        clear c3
        by_cases c4 : 0 ≤ x1_1
        · rw [if_pos c4] at H
          have c4b0 : decide (0 ≤ x1_1) = true := decide_eq_true c4
          clear c4
          have HC5 := Aside0.mk H
          clear H
          have p321 : 0 ≤ (x1_1 : Int) := of_decide_eq_true (by first | (with_reducible assumption) | assumption)
          have q321 : x1_1 < (l0.length : Int) := of_decide_eq_true (by first | (with_reducible assumption) | assumption)
          obtain ⟨ad321, e321, hx321_0⟩ := Kd.at_int HR0.out x1_1 p321 q321
          cases e321
          replace hx321_0 := (HB.out.cell (World.block_lt_of_cell? w _ hx321_0)).trans hx321_0
          replace p321 := eq_true p321
          replace q321 := eq_true q321
          go_upto_if 17 with (fail)
          go_cut [17] (fun v17 wc => ∃ (kq : Nat) (x17_4 : Bool), v17 = .bool x17_4 ∧ Aside0 (gjson_validobject.j1 kq l0 x1_1 (rd l0 x1_1) x17_4 = some (r1, r2)) ∧ Aside0 (kq ≤ k1) ∧ Aside0 (Below w.heap.size w wc))
          case first =>
            have H := HC5.out
            clear HC5
            by_cases c6 : (rd l0 x1_1) = 32
            · rw [if_pos c6] at H
              have c6b0 : ((rd l0 x1_1) == 32) = true := beq_iff_eq.mpr c6
              have c6b1 : ((rd l0 x1_1) != 32) = false := bne_eq_false_iff_eq.mpr c6
              clear c6
              (first | rw [c6b0] | (simp only [i64_w, i32_w]; rw [c6b0]) | skip)
              have H' := Aside0.mk H
              clear H
              go_wp2
              go_meet
              case rel => exact ⟨_, (((rd l0 x1_1) == 32)), (by first | rfl | (simp; done) | (simp [*]; done)), H', ⟨by have := HK1.out; first | omega | exact Nat.le_refl _⟩, ⟨by repeat (first | (with_reducible first | exact HB.out | apply below_alloc | apply pw_below_drewN | apply below_drew1) | exact HB.out)⟩⟩
            · rw [if_neg c6] at H
              have c6b0 : ((rd l0 x1_1) == 32) = false := beq_eq_false_iff_ne.mpr c6
              have c6b1 : ((rd l0 x1_1) != 32) = true := bne_iff_ne.mpr c6
              (first | rw [c6b0] | (simp only [i64_w, i32_w]; rw [c6b0]) | skip)
              by_cases c7 : (rd l0 x1_1) = 9
              · rw [if_pos c7] at H
                have c7b0 : ((rd l0 x1_1) == 9) = true := beq_iff_eq.mpr c7
                have c7b1 : ((rd l0 x1_1) != 9) = false := bne_eq_false_iff_eq.mpr c7
                clear c7
                have H' := Aside0.mk H
                clear H
                go_wp2
                go_meet
                case rel => exact ⟨_, (((rd l0 x1_1) == 9)), (by first | rfl | (simp; done) | (simp [*]; done)), H', ⟨by have := HK1.out; first | omega | exact Nat.le_refl _⟩, ⟨by repeat (first | (with_reducible first | exact HB.out | apply below_alloc | apply pw_below_drewN | apply below_drew1) | exact HB.out)⟩⟩
              · rw [if_neg c7] at H
                have c7b0 : ((rd l0 x1_1) == 9) = false := beq_eq_false_iff_ne.mpr c7
                have c7b1 : ((rd l0 x1_1) != 9) = true := bne_iff_ne.mpr c7
                by_cases c8 : (rd l0 x1_1) = 10
                · rw [if_pos c8] at H
                  have c8b0 : ((rd l0 x1_1) == 10) = true := beq_iff_eq.mpr c8
                  have c8b1 : ((rd l0 x1_1) != 10) = false := bne_eq_false_iff_eq.mpr c8
                  clear c8
                  have H' := Aside0.mk H
                  clear H
                  go_wp2
                  go_meet
                  case rel => exact ⟨_, (((rd l0 x1_1) == 10)), (by first | rfl | (simp; done) | (simp [*]; done)), H', ⟨by have := HK1.out; first | omega | exact Nat.le_refl _⟩, ⟨by repeat (first | (with_reducible first | exact HB.out | apply below_alloc | apply pw_below_drewN | apply below_drew1) | exact HB.out)⟩⟩
                · rw [if_neg c8] at H
                  have c8b0 : ((rd l0 x1_1) == 10) = false := beq_eq_false_iff_ne.mpr c8
                  have c8b1 : ((rd l0 x1_1) != 10) = true := bne_iff_ne.mpr c8
                  have H' := Aside0.mk H
                  clear H
                  go_wp2
                  go_meet
                  case rel => exact ⟨_, (((rd l0 x1_1) == 13)), (by first | rfl | (simp; done) | (simp [*]; done)), H', ⟨by have := HK1.out; first | omega | exact Nat.le_refl _⟩, ⟨by repeat (first | (with_reducible first | exact HB.out | apply below_alloc | apply pw_below_drewN | apply below_drew1) | exact HB.out)⟩⟩
          case rest =>
            clear HC5
            try clear c2
            try clear p2
            try clear c3
            try clear c3b0
            try clear p3
            try clear q3
            try clear hx3
            try clear c4
            try clear c4b0
            try clear c6
            try clear c6b0
            try clear c6b1
            try clear c7
            try clear c7b0
            try clear c7b1
            try clear c8
            try clear c8b0
            try clear c8b1
            try clear hx321_0
            try clear p2
            try clear p321
            try clear q321
            obtain ⟨kq, x17_4, rfl, HA, HJ4, HB⟩ := hcut
            cases kq with
            | zero => exact absurd HA.out (by simp [gjson_validobject.j1])
            | succ kj4 =>
              have H := HA.out
              clear HA
              simp only [gjson_validobject.j1] at H
              by_cases c9 : x17_4 = true
              · subst c9
                have H1 : (gjson_validobject.l0 kj4 l0 (wrap64 (x1_1 + 1))) = some (r1, r2) := by rw [if_pos rfl] at H; exact H
                clear H
                have H := H1
                clear H1
                have H' := Aside0.mk H
                clear H
                go_wp2
                go_roundg kj4
                case measure => have := HK1.out; have := HJ4.out; omega
                case rel => exact ⟨(wrap64 (x1_1 + 1)), (by first | rfl | (simp; done) | (simp [*]; done)), H', ⟨by have := HK1.out; have := HJ4.out; omega⟩, ⟨by repeat (first | (with_reducible first | exact HB.out | apply below_alloc | apply pw_below_drewN | apply below_drew1) | exact HB.out)⟩⟩
              · replace c9 := Bool.eq_false_iff.mpr c9
                subst c9
                have H1 : (if (rd l0 x1_1) = 125 then (some (wrap64 (x1_1 + 1), true)) else (if (rd l0 x1_1) = 34 then (gjson_validobject.l1 kj4 l0 x1_1) else (some (x1_1, false)))) = some (r1, r2) := by rw [if_neg (show ¬ (false = true) by decide)] at H; exact H
                clear H
                have H := H1
                clear H1
                by_cases c10 : (rd l0 x1_1) = 125
                · rw [if_pos c10] at H
                  have c10b0 : ((rd l0 x1_1) == 125) = true := beq_iff_eq.mpr c10
                  have c10b1 : ((rd l0 x1_1) != 125) = false := bne_eq_false_iff_eq.mpr c10
                  clear c10
                  simp only [Option.some.injEq, Prod.mk.injEq] at H
                  obtain ⟨rfl, rfl⟩ := H
                  go_wp2
                  (try simp only [Exit.jump, Exit.inBlock, Exit.then])
                  go_ret2
                  exact ⟨by first | rfl | (simp [errW_none, errW_some] <;> rfl) | (simp [*, errW_none, errW_some] <;> rfl), by repeat (first | (with_reducible first | exact HB.out | apply below_alloc | apply pw_below_drewN | apply below_drew1) | exact HB.out)⟩
                · rw [if_neg c10] at H
                  have c10b0 : ((rd l0 x1_1) == 125) = false := beq_eq_false_iff_ne.mpr c10
                  have c10b1 : ((rd l0 x1_1) != 125) = true := bne_iff_ne.mpr c10
                  by_cases c11 : (rd l0 x1_1) = 34
                  · rw [if_pos c11] at H
                    have c11b0 : ((rd l0 x1_1) == 34) = true := beq_iff_eq.mpr c11
                    have c11b1 : ((rd l0 x1_1) != 34) = false := bne_eq_false_iff_eq.mpr c11
                    clear c11
                    have H' := Aside0.mk H
                    clear H
                    go_wp2
                    (try simp only [Act.put, List.setIfInBounds_toArray, List.set_cons_zero, List.set_cons_succ])
                    refine wp_label_ghost (l := 0) (fun kq ac w' => ∃ (x1_3 : Int) (f2_ f3_ f4_ f5_ f6_ f7_ f8_ f9_ f10_ f11_ f12_ f13_ f14_ f15_ f16_ f17_ f18_ f19_ f20_ f21_ f22_ f23_ f24_ f25_ f26_ f27_ f28_ f29_ f30_ f31_ f32_ f33_ f34_ f35_ f36_ f37_ f38_ f39_ f40_ f41_ f42_ f43_ f44_ f45_ f46_ f47_ f48_ f49_ f50_ f51_ f52_ f53_ f54_ f55_ f56_ f57_ f58_ f59_ f60_ f61_ f62_ f63_ f64_ f65_ f66_ f67_ f68_ f69_ f70_ f71_ f72_ f73_ f74_ f75_ f76_ f77_ f78_ f79_ f80_ f81_ f82_ f83_ f84_ f85_ f86_ f87_ f88_ f89_ f90_ f91_ f92_ f93_ : Value), Aside0 (gjson_validobject.l1 kq l0 x1_3 = some (r1, r2)) ∧ Aside0 (kq ≤ kj4) ∧ (Aside0 (Below w.heap.size w w')) ∧ ac = { tmps := #[(.slice (some ad321) l0.length c0), .int .i64 x1_3, f2_, f3_, f4_, f5_, f6_, f7_, f8_, f9_, f10_, f11_, f12_, f13_, f14_, f15_, f16_, f17_, f18_, f19_, f20_, f21_, f22_, f23_, f24_, f25_, f26_, f27_, f28_, f29_, f30_, f31_, f32_, f33_, f34_, f35_, f36_, f37_, f38_, f39_, f40_, f41_, f42_, f43_, f44_, f45_, f46_, f47_, f48_, f49_, f50_, f51_, f52_, f53_, f54_, f55_, f56_, f57_, f58_, f59_, f60_, f61_, f62_, f63_, f64_, f65_, f66_, f67_, f68_, f69_, f70_, f71_, f72_, f73_, f74_, f75_, f76_, f77_, f78_, f79_, f80_, f81_, f82_, f83_, f84_, f85_, f86_, f87_, f88_, f89_, f90_, f91_, f92_, f93_], defers := [] }) kj4 ?atStart ?round
                    case atStart => exact ⟨(x1_1), _, _, _, _, _, _, _, _, _, _, _, _, _, _, _, _, _, _, _, _, _, _, _, _, _, _, _, _, _, _, _, _, _, _, _, _, _, _, _, _, _, _, _, _, _, _, _, _, _, _, _, _, _, _, _, _, _, _, _, _, _, _, _, _, _, _, _, _, _, _, _, _, _, _, _, _, _, _, _, _, _, _, _, _, _, _, _, _, _, _, _, _, H', ⟨Nat.le_refl _⟩, ⟨by repeat (first | (with_reducible first | exact HB.out | apply below_alloc | apply pw_below_drewN | apply below_drew1) | exact HB.out)⟩, rfl⟩
                    case round =>
                      clear H'
                      try clear c1
                      try clear c2
                      try clear p2
                      try clear c3
                      try clear c3b0
                      try clear p3
                      try clear q3
                      try clear hx3
                      try clear c4
                      try clear c4b0
                      try clear c6
                      try clear c6b0
                      try clear c6b1
                      try clear p6
                      try clear c7
                      try clear c7b0
                      try clear c7b1
                      try clear c8
                      try clear c8b0
                      try clear c8b1
                      try clear c9
                      try clear c10
                      try clear c10b0
                      try clear c10b1
                      try clear c11
                      try clear c11b0
                      try clear c11b1
                      try clear hx321_0
                      try clear p2
                      try clear p3
                      try clear p321
                      try clear q3
                      try clear q321
                      intro gk _ wr hrel KJ hKJl1
                      obtain ⟨x1_3, hrel⟩ := hrel
                      obtain ⟨f2_, hrel⟩ := hrel
                      obtain ⟨f3_, hrel⟩ := hrel
                      obtain ⟨f4_, hrel⟩ := hrel
                      obtain ⟨f5_, hrel⟩ := hrel
                      obtain ⟨f6_, hrel⟩ := hrel
                      obtain ⟨f7_, hrel⟩ := hrel
                      obtain ⟨f8_, hrel⟩ := hrel
                      obtain ⟨f9_, hrel⟩ := hrel
                      obtain ⟨f10_, hrel⟩ := hrel
                      obtain ⟨f11_, hrel⟩ := hrel
                      obtain ⟨f12_, hrel⟩ := hrel
                      obtain ⟨f13_, hrel⟩ := hrel
                      obtain ⟨f14_, hrel⟩ := hrel
                      obtain ⟨f15_, hrel⟩ := hrel
                      obtain ⟨f16_, hrel⟩ := hrel
                      obtain ⟨f17_, hrel⟩ := hrel
                      obtain ⟨f18_, hrel⟩ := hrel
                      obtain ⟨f19_, hrel⟩ := hrel
                      obtain ⟨f20_, hrel⟩ := hrel
                      obtain ⟨f21_, hrel⟩ := hrel
                      obtain ⟨f22_, hrel⟩ := hrel
                      obtain ⟨f23_, hrel⟩ := hrel
                      obtain ⟨f24_, hrel⟩ := hrel
                      obtain ⟨f25_, hrel⟩ := hrel
                      obtain ⟨f26_, hrel⟩ := hrel
                      obtain ⟨f27_, hrel⟩ := hrel
                      obtain ⟨f28_, hrel⟩ := hrel
                      obtain ⟨f29_, hrel⟩ := hrel
                      obtain ⟨f30_, hrel⟩ := hrel
                      obtain ⟨f31_, hrel⟩ := hrel
                      obtain ⟨f32_, hrel⟩ := hrel
                      obtain ⟨f33_, hrel⟩ := hrel
                      obtain ⟨f34_, hrel⟩ := hrel
                      obtain ⟨f35_, hrel⟩ := hrel
                      obtain ⟨f36_, hrel⟩ := hrel
                      obtain ⟨f37_, hrel⟩ := hrel
                      obtain ⟨f38_, hrel⟩ := hrel
                      obtain ⟨f39_, hrel⟩ := hrel
                      obtain ⟨f40_, hrel⟩ := hrel
                      obtain ⟨f41_, hrel⟩ := hrel
                      obtain ⟨f42_, hrel⟩ := hrel
                      obtain ⟨f43_, hrel⟩ := hrel
                      obtain ⟨f44_, hrel⟩ := hrel
                      obtain ⟨f45_, hrel⟩ := hrel
                      obtain ⟨f46_, hrel⟩ := hrel
                      obtain ⟨f47_, hrel⟩ := hrel
                      obtain ⟨f48_, hrel⟩ := hrel
                      obtain ⟨f49_, hrel⟩ := hrel
                      obtain ⟨f50_, hrel⟩ := hrel
                      obtain ⟨f51_, hrel⟩ := hrel
                      obtain ⟨f52_, hrel⟩ := hrel
                      obtain ⟨f53_, hrel⟩ := hrel
                      obtain ⟨f54_, hrel⟩ := hrel
                      obtain ⟨f55_, hrel⟩ := hrel
                      obtain ⟨f56_, hrel⟩ := hrel
                      obtain ⟨f57_, hrel⟩ := hrel
                      obtain ⟨f58_, hrel⟩ := hrel
                      obtain ⟨f59_, hrel⟩ := hrel
                      obtain ⟨f60_, hrel⟩ := hrel
                      obtain ⟨f61_, hrel⟩ := hrel
                      obtain ⟨f62_, hrel⟩ := hrel
                      obtain ⟨f63_, hrel⟩ := hrel
                      obtain ⟨f64_, hrel⟩ := hrel
                      obtain ⟨f65_, hrel⟩ := hrel
                      obtain ⟨f66_, hrel⟩ := hrel
                      obtain ⟨f67_, hrel⟩ := hrel
                      obtain ⟨f68_, hrel⟩ := hrel
                      obtain ⟨f69_, hrel⟩ := hrel
                      obtain ⟨f70_, hrel⟩ := hrel
                      obtain ⟨f71_, hrel⟩ := hrel
                      obtain ⟨f72_, hrel⟩ := hrel
                      obtain ⟨f73_, hrel⟩ := hrel
                      obtain ⟨f74_, hrel⟩ := hrel
                      obtain ⟨f75_, hrel⟩ := hrel
                      obtain ⟨f76_, hrel⟩ := hrel
                      obtain ⟨f77_, hrel⟩ := hrel
                      obtain ⟨f78_, hrel⟩ := hrel
                      obtain ⟨f79_, hrel⟩ := hrel
                      obtain ⟨f80_, hrel⟩ := hrel
                      obtain ⟨f81_, hrel⟩ := hrel
                      obtain ⟨f82_, hrel⟩ := hrel
                      obtain ⟨f83_, hrel⟩ := hrel
                      obtain ⟨f84_, hrel⟩ := hrel
                      obtain ⟨f85_, hrel⟩ := hrel
                      obtain ⟨f86_, hrel⟩ := hrel
                      obtain ⟨f87_, hrel⟩ := hrel
                      obtain ⟨f88_, hrel⟩ := hrel
                      obtain ⟨f89_, hrel⟩ := hrel
                      obtain ⟨f90_, hrel⟩ := hrel
                      obtain ⟨f91_, hrel⟩ := hrel
                      obtain ⟨f92_, hrel⟩ := hrel
                      obtain ⟨f93_, hrel⟩ := hrel
                      obtain ⟨HA, HK3, HB, ha⟩ := hrel
                      subst ha
                      cases gk with
                      | zero => exact absurd HA.out (by simp [gjson_validobject.l1])
                      | succ k3 =>
                        have H := HA.out
                        clear HA
                        simp only [gjson_validobject.l1] at H
                        replace H := Option.bind_eq_some_iff.mp H
                        obtain ⟨⟨t322, t323⟩, A120, H⟩ := H
                        replace H : (if t323 = true then ((gjson_validcolon.f k3 l0 t322).bind fun bt324 => (if bt324.2 = true then ((gjson_validany.f k3 l0 bt324.1).bind fun bt326 => (if bt326.2 = true then ((gjson_validcomma.f k3 l0 bt326.1 125).bind fun bt328 => (if bt328.2 = true then (if 0 ≤ bt328.1 then (if bt328.1 < (l0.length : Int) then (if (rd l0 bt328.1) = 125 then (some (wrap64 (bt328.1 + 1), true)) else (gjson_validobject.l2 k3 l0 (wrap64 (bt328.1 + 1)))) else (none)) else (none)) else (some (bt328.1, false)))) else (some (bt326.1, false)))) else (some (bt324.1, false)))) else (some (t322, false))) = some (r1, r2) := H
                        have A12 := Aside0.mk A120
                        clear A120
                        by_cases c13 : t323 = true
                        · subst c13
                          have H1 : ((gjson_validcolon.f k3 l0 t322).bind fun bt324 => (if bt324.2 = true then ((gjson_validany.f k3 l0 bt324.1).bind fun bt326 => (if bt326.2 = true then ((gjson_validcomma.f k3 l0 bt326.1 125).bind fun bt328 => (if bt328.2 = true then (if 0 ≤ bt328.1 then (if bt328.1 < (l0.length : Int) then (if (rd l0 bt328.1) = 125 then (some (wrap64 (bt328.1 + 1), true)) else (gjson_validobject.l2 k3 l0 (wrap64 (bt328.1 + 1)))) else (none)) else (none)) else (some (bt328.1, false)))) else (some (bt326.1, false)))) else (some (bt324.1, false)))) = some (r1, r2) := by rw [if_pos rfl] at H; exact H
                          clear H
                          have H := H1
                          clear H1
                          replace H := Option.bind_eq_some_iff.mp H
                          obtain ⟨⟨t324, t325⟩, A140, H⟩ := H
                          replace H : (if t325 = true then ((gjson_validany.f k3 l0 t324).bind fun bt326 => (if bt326.2 = true then ((gjson_validcomma.f k3 l0 bt326.1 125).bind fun bt328 => (if bt328.2 = true then (if 0 ≤ bt328.1 then (if bt328.1 < (l0.length : Int) then (if (rd l0 bt328.1) = 125 then (some (wrap64 (bt328.1 + 1), true)) else (gjson_validobject.l2 k3 l0 (wrap64 (bt328.1 + 1)))) else (none)) else (none)) else (some (bt328.1, false)))) else (some (bt326.1, false)))) else (some (t324, false))) = some (r1, r2) := H
                          have A14 := Aside0.mk A140
                          clear A140
                          by_cases c15 : t325 = true
                          · subst c15
                            have H1 : ((gjson_validany.f k3 l0 t324).bind fun bt326 => (if bt326.2 = true then ((gjson_validcomma.f k3 l0 bt326.1 125).bind fun bt328 => (if bt328.2 = true then (if 0 ≤ bt328.1 then (if bt328.1 < (l0.length : Int) then (if (rd l0 bt328.1) = 125 then (some (wrap64 (bt328.1 + 1), true)) else (gjson_validobject.l2 k3 l0 (wrap64 (bt328.1 + 1)))) else (none)) else (none)) else (some (bt328.1, false)))) else (some (bt326.1, false)))) = some (r1, r2) := by rw [if_pos rfl] at H; exact H
                            clear H
                            have H := H1
                            clear H1
                            replace H := Option.bind_eq_some_iff.mp H
                            obtain ⟨⟨t326, t327⟩, A160, H⟩ := H
                            replace H : (if t327 = true then ((gjson_validcomma.f k3 l0 t326 125).bind fun bt328 => (if bt328.2 = true then (if 0 ≤ bt328.1 then (if bt328.1 < (l0.length : Int) then (if (rd l0 bt328.1) = 125 then (some (wrap64 (bt328.1 + 1), true)) else (gjson_validobject.l2 k3 l0 (wrap64 (bt328.1 + 1)))) else (none)) else (none)) else (some (bt328.1, false)))) else (some (t326, false))) = some (r1, r2) := H
                            have A16 := Aside0.mk A160
                            clear A160
                            by_cases c17 : t327 = true
                            · subst c17
                              have H1 : ((gjson_validcomma.f k3 l0 t326 125).bind fun bt328 => (if bt328.2 = true then (if 0 ≤ bt328.1 then (if bt328.1 < (l0.length : Int) then (if (rd l0 bt328.1) = 125 then (some (wrap64 (bt328.1 + 1), true)) else (gjson_validobject.l2 k3 l0 (wrap64 (bt328.1 + 1)))) else (none)) else (none)) else (some (bt328.1, false)))) = some (r1, r2) := by rw [if_pos rfl] at H; exact H
                              clear H
                              have H := H1
                              clear H1
                              replace H := Option.bind_eq_some_iff.mp H
                              obtain ⟨⟨t328, t329⟩, A180, H⟩ := H
                              replace H : (if t329 = true then (if 0 ≤ t328 then (if t328 < (l0.length : Int) then (if (rd l0 t328) = 125 then (some (wrap64 (t328 + 1), true)) else (gjson_validobject.l2 k3 l0 (wrap64 (t328 + 1)))) else (none)) else (none)) else (some (t328, false))) = some (r1, r2) := H
                              have A18 := Aside0.mk A180
                              clear A180
                              by_cases c19 : t329 = true
                              · subst c19
                                have H1 : (if 0 ≤ t328 then (if t328 < (l0.length : Int) then (if (rd l0 t328) = 125 then (some (wrap64 (t328 + 1), true)) else (gjson_validobject.l2 k3 l0 (wrap64 (t328 + 1)))) else (none)) else (none)) = some (r1, r2) := by rw [if_pos rfl] at H; exact H
                                clear H
                                have H := H1
                                clear H1
                                by_cases c20 : 0 ≤ t328
                                · rw [if_pos c20] at H
                                  have c20b0 : decide (0 ≤ t328) = true := decide_eq_true c20
                                  clear c20
                                  by_cases c21 : t328 < (l0.length : Int)
                                  · rw [if_pos c21] at H
                                    have c21b0 : decide (t328 < (l0.length : Int)) = true := decide_eq_true c21
                                    clear c21
                                    by_cases c22 : (rd l0 t328) = 125
                                    · rw [if_pos c22] at H
                                      have c22b0 : ((rd l0 t328) == 125) = true := beq_iff_eq.mpr c22
                                      have c22b1 : ((rd l0 t328) != 125) = false := bne_eq_false_iff_eq.mpr c22
                                      clear c22
                                      simp only [Option.some.injEq, Prod.mk.injEq] at H
                                      obtain ⟨rfl, rfl⟩ := H
                                      go_wp2_with (first | ((with_reducible refine gate_callee (f := 27) rfl ?_); refine goesL_ (some 32) rfl rfl Try.func27 (by kernel_rfl) rfl #[.slice (some ad321) l0.length c0, .int .i64 (wrap64 (x1_3 + 1))] rfl (by (try simp only [List.map_toArray, List.map_cons, List.map_nil]); first | done | rfl | (simp only [List.length_drop, List.length_take]; rfl)) ?_; (with_reducible refine (gjson_validstring.calls k3 _ _ l0 (wrap64 (x1_3 + 1)) t322 true _ ?side1 ?side2 A12.out).mono ?_); (case side1 => repeat (first | exact (Kd.C_below HR0.out HB.out) | (with_reducible refine Kd.C_alloc ?_ _) | (with_reducible refine Kd.C_drewN ?_ _) | (with_reducible refine Kd.C_drew ?_))); (case side2 => exact HC0.out); rintro e w' ⟨rfl, ⟨nd, rfl⟩⟩; refine ⟨_, rfl, ?_⟩) | ((with_reducible refine gate_callee (f := 32) rfl ?_); refine goesL_ (some 41) rfl rfl Try.func32 (by kernel_rfl) rfl #[.slice (some ad321) l0.length c0, .int .i64 t322] rfl (by (try simp only [List.map_toArray, List.map_cons, List.map_nil]); first | done | rfl | (simp only [List.length_drop, List.length_take]; rfl)) ?_; (with_reducible refine (gjson_validcolon.calls k3 _ _ l0 t322 t324 true _ ?side1 ?side2 A14.out).mono ?_); (case side1 => repeat (first | exact (Kd.C_below HR0.out (by repeat (first | (with_reducible first | exact HB.out | apply below_alloc | apply pw_below_drewN | apply below_drew1) | exact HB.out))) | (with_reducible refine Kd.C_alloc ?_ _) | (with_reducible refine Kd.C_drewN ?_ _) | (with_reducible refine Kd.C_drew ?_))); (case side2 => exact HC0.out); rintro e w' ⟨rfl, ⟨nd, rfl⟩⟩; refine ⟨_, rfl, ?_⟩) | ((with_reducible refine gate_callee (f := 24) rfl ?_); refine goesL_ (some 50) rfl rfl Try.func24 (by kernel_rfl) rfl #[.slice (some ad321) l0.length c0, .int .i64 t324] rfl (by (try simp only [List.map_toArray, List.map_cons, List.map_nil]); first | done | rfl | (simp only [List.length_drop, List.length_take]; rfl)) ?_; (with_reducible refine ((IHG.out k3 (by have := HK1.out; have := HJ4.out; have := HK3.out; omega)).2.2  _ _ l0 t324 t326 true _ ?side1 ?side2 A16.out).mono ?_); (case side1 => repeat (first | exact (Kd.C_below HR0.out (by repeat (first | (with_reducible first | exact HB.out | apply below_alloc | apply pw_below_drewN | apply below_drew1) | exact HB.out))) | (with_reducible refine Kd.C_alloc ?_ _) | (with_reducible refine Kd.C_drewN ?_ _) | (with_reducible refine Kd.C_drew ?_))); (case side2 => exact HC0.out); rintro e w23 ⟨rfl, hb⟩; refine ⟨_, rfl, ?_⟩; have n0_ := Aside0.mk (below_step (by repeat (first | (with_reducible first | exact HB.out | apply below_alloc | apply pw_below_drewN | apply below_drew1) | exact HB.out)) hb); clear HB; have HB := n0_; clear n0_; (try clear hb); (try clear hb2); (try clear hk); (try clear hi)) | ((with_reducible refine gate_callee (f := 33) rfl ?_); refine goesL_ (some 59) rfl rfl Try.func33 (by kernel_rfl) rfl #[.slice (some ad321) l0.length c0, .int .i64 t326, .int .u8 125] rfl (by (try simp only [List.map_toArray, List.map_cons, List.map_nil]); first | done | rfl | (simp only [List.length_drop, List.length_take]; rfl)) ?_; (with_reducible refine (gjson_validcomma.calls k3 _ _ l0 t326 125 t328 true _ ?side1 ?side2 A18.out).mono ?_); (case side1 => repeat (first | exact (Kd.C_below HR0.out HB.out) | (with_reducible refine Kd.C_alloc ?_ _) | (with_reducible refine Kd.C_drewN ?_ _) | (with_reducible refine Kd.C_drew ?_))); (case side2 => exact HC0.out); rintro e w' ⟨rfl, ⟨nd, rfl⟩⟩; refine ⟨_, rfl, ?_⟩; have p330 : 0 ≤ (t328 : Int) := of_decide_eq_true (by first | (with_reducible assumption) | assumption); have q330 : t328 < (l0.length : Int) := of_decide_eq_true (by first | (with_reducible assumption) | assumption); obtain ⟨ad330, e330, hx330_0⟩ := Kd.at_int HR0.out t328 p330 q330; obtain rfl : ad321 = ad330 := (by injection e330); replace hx330_0 := (HB.out.cell (World.block_lt_of_cell? w _ hx330_0)).trans hx330_0; replace p330 := eq_true p330; replace q330 := eq_true q330))
                                      (try simp only [Exit.jump, Exit.inBlock, Exit.then])
                                      go_ret2
                                      exact ⟨by first | rfl | (simp [errW_none, errW_some] <;> rfl) | (simp [*, errW_none, errW_some] <;> rfl), by repeat (first | (with_reducible first | exact HB.out | apply below_alloc | apply pw_below_drewN | apply below_drew1) | exact HB.out)⟩
                                    · rw [if_neg c22] at H
                                      have c22b0 : ((rd l0 t328) == 125) = false := beq_eq_false_iff_ne.mpr c22
                                      have c22b1 : ((rd l0 t328) != 125) = true := bne_iff_ne.mpr c22
                                      have H' := Aside0.mk H
                                      clear H
                                      go_wp2_with (first | ((with_reducible refine gate_callee (f := 27) rfl ?_); refine goesL_ (some 32) rfl rfl Try.func27 (by kernel_rfl) rfl #[.slice (some ad321) l0.length c0, .int .i64 (wrap64 (x1_3 + 1))] rfl (by (try simp only [List.map_toArray, List.map_cons, List.map_nil]); first | done | rfl | (simp only [List.length_drop, List.length_take]; rfl)) ?_; (with_reducible refine (gjson_validstring.calls k3 _ _ l0 (wrap64 (x1_3 + 1)) t322 true _ ?side1 ?side2 A12.out).mono ?_); (case side1 => repeat (first | exact (Kd.C_below HR0.out HB.out) | (with_reducible refine Kd.C_alloc ?_ _) | (with_reducible refine Kd.C_drewN ?_ _) | (with_reducible refine Kd.C_drew ?_))); (case side2 => exact HC0.out); rintro e w' ⟨rfl, ⟨nd, rfl⟩⟩; refine ⟨_, rfl, ?_⟩) | ((with_reducible refine gate_callee (f := 32) rfl ?_); refine goesL_ (some 41) rfl rfl Try.func32 (by kernel_rfl) rfl #[.slice (some ad321) l0.length c0, .int .i64 t322] rfl (by (try simp only [List.map_toArray, List.map_cons, List.map_nil]); first | done | rfl | (simp only [List.length_drop, List.length_take]; rfl)) ?_; (with_reducible refine (gjson_validcolon.calls k3 _ _ l0 t322 t324 true _ ?side1 ?side2 A14.out).mono ?_); (case side1 => repeat (first | exact (Kd.C_below HR0.out (by repeat (first | (with_reducible first | exact HB.out | apply below_alloc | apply pw_below_drewN | apply below_drew1) | exact HB.out))) | (with_reducible refine Kd.C_alloc ?_ _) | (with_reducible refine Kd.C_drewN ?_ _) | (with_reducible refine Kd.C_drew ?_))); (case side2 => exact HC0.out); rintro e w' ⟨rfl, ⟨nd, rfl⟩⟩; refine ⟨_, rfl, ?_⟩) | ((with_reducible refine gate_callee (f := 24) rfl ?_); refine goesL_ (some 50) rfl rfl Try.func24 (by kernel_rfl) rfl #[.slice (some ad321) l0.length c0, .int .i64 t324] rfl (by (try simp only [List.map_toArray, List.map_cons, List.map_nil]); first | done | rfl | (simp only [List.length_drop, List.length_take]; rfl)) ?_; (with_reducible refine ((IHG.out k3 (by have := HK1.out; have := HJ4.out; have := HK3.out; omega)).2.2  _ _ l0 t324 t326 true _ ?side1 ?side2 A16.out).mono ?_); (case side1 => repeat (first | exact (Kd.C_below HR0.out (by repeat (first | (with_reducible first | exact HB.out | apply below_alloc | apply pw_below_drewN | apply below_drew1) | exact HB.out))) | (with_reducible refine Kd.C_alloc ?_ _) | (with_reducible refine Kd.C_drewN ?_ _) | (with_reducible refine Kd.C_drew ?_))); (case side2 => exact HC0.out); rintro e w24 ⟨rfl, hb⟩; refine ⟨_, rfl, ?_⟩; have n0_ := Aside0.mk (below_step (by repeat (first | (with_reducible first | exact HB.out | apply below_alloc | apply pw_below_drewN | apply below_drew1) | exact HB.out)) hb); clear HB; have HB := n0_; clear n0_; (try clear hb); (try clear hb2); (try clear hk); (try clear hi)) | ((with_reducible refine gate_callee (f := 33) rfl ?_); refine goesL_ (some 59) rfl rfl Try.func33 (by kernel_rfl) rfl #[.slice (some ad321) l0.length c0, .int .i64 t326, .int .u8 125] rfl (by (try simp only [List.map_toArray, List.map_cons, List.map_nil]); first | done | rfl | (simp only [List.length_drop, List.length_take]; rfl)) ?_; (with_reducible refine (gjson_validcomma.calls k3 _ _ l0 t326 125 t328 true _ ?side1 ?side2 A18.out).mono ?_); (case side1 => repeat (first | exact (Kd.C_below HR0.out HB.out) | (with_reducible refine Kd.C_alloc ?_ _) | (with_reducible refine Kd.C_drewN ?_ _) | (with_reducible refine Kd.C_drew ?_))); (case side2 => exact HC0.out); rintro e w' ⟨rfl, ⟨nd, rfl⟩⟩; refine ⟨_, rfl, ?_⟩; have p330 : 0 ≤ (t328 : Int) := of_decide_eq_true (by first | (with_reducible assumption) | assumption); have q330 : t328 < (l0.length : Int) := of_decide_eq_true (by first | (with_reducible assumption) | assumption); obtain ⟨ad330, e330, hx330_0⟩ := Kd.at_int HR0.out t328 p330 q330; obtain rfl : ad321 = ad330 := (by injection e330); replace hx330_0 := (HB.out.cell (World.block_lt_of_cell? w _ hx330_0)).trans hx330_0; replace p330 := eq_true p330; replace q330 := eq_true q330))
                                      (try simp only [Act.put, List.setIfInBounds_toArray, List.set_cons_zero, List.set_cons_succ])
                                      go_loopg [1] k3 (fun kq v1 w' => ∃ (x1_4 : Int), v1 = .int .i64 x1_4 ∧ Aside0 (gjson_validobject.l2 kq l0 x1_4 = some (r1, r2)) ∧ Aside0 (kq ≤ k3) ∧ Aside0 (Below w.heap.size w w'))
                                      case atStart => exact ⟨(wrap64 (t328 + 1)), (by first | rfl | (simp; done) | (simp [*]; done)), H', ⟨Nat.le_refl _⟩, ⟨by repeat (first | (with_reducible first | exact HB.out | apply below_alloc | apply pw_below_drewN | apply below_drew1) | exact HB.out)⟩⟩
                                      case round =>
                                        clear H'
                                        try clear c1
                                        try clear c2
                                        try clear p2
                                        try clear c3
                                        try clear c3b0
                                        try clear p3
                                        try clear q3
                                        try clear hx3
                                        try clear c4
                                        try clear c4b0
                                        try clear c6
                                        try clear c6b0
                                        try clear c6b1
                                        try clear p6
                                        try clear c7
                                        try clear c7b0
                                        try clear c7b1
                                        try clear c8
                                        try clear c8b0
                                        try clear c8b1
                                        try clear c9
                                        try clear c10
                                        try clear c10b0
                                        try clear c10b1
                                        try clear c11
                                        try clear c11b0
                                        try clear c11b1
                                        try clear c13
                                        try clear c15
                                        try clear c17
                                        try clear c19
                                        try clear c20
                                        try clear c20b0
                                        try clear c21
                                        try clear c21b0
                                        try clear c22
                                        try clear c22b0
                                        try clear c22b1
                                        try clear c24
                                        try clear hx321_0
                                        try clear hx330_0
                                        try clear p2
                                        try clear p3
                                        try clear p321
                                        try clear p330
                                        try clear p6
                                        try clear q3
                                        try clear q321
                                        try clear q330
                                        obtain ⟨x1_4, rfl, HA, HK4, HB⟩ := hrel
                                        cases gk with
                                        | zero => exact absurd HA.out (by simp [gjson_validobject.l2])
                                        | succ k4 =>
                                          have H := HA.out
                                          clear HA
                                          simp only [gjson_validobject.l2] at H
                                          by_cases c25 : x1_4 < (l0.length : Int)
                                          · rw [if_pos c25] at H
                                            have c25b0 : decide (x1_4 < (l0.length : Int)) = true := decide_eq_true c25
                                            clear c25
                                            by_cases c26 : 0 ≤ x1_4
                                            · rw [if_pos c26] at H
                                              have c26b0 : decide (0 ≤ x1_4) = true := decide_eq_true c26
                                              clear c26
                                              have HC27 := Aside0.mk H
                                              clear H
                                              have p331 : 0 ≤ (x1_4 : Int) := of_decide_eq_true (by first | (with_reducible assumption) | assumption)
                                              have q331 : x1_4 < (l0.length : Int) := of_decide_eq_true (by first | (with_reducible assumption) | assumption)
                                              obtain ⟨ad331, e331, hx331_0⟩ := Kd.at_int HR0.out x1_4 p331 q331
                                              obtain rfl : ad321 = ad331 := (by injection e331)
                                              replace hx331_0 := (HB.out.cell (World.block_lt_of_cell? w _ hx331_0)).trans hx331_0
                                              replace p331 := eq_true p331
                                              replace q331 := eq_true q331
                                              go_upto_if 85 with (fail)
                                              go_cut [85] (fun v85 wc => ∃ (kq : Nat) (x85_26 : Bool), v85 = .bool x85_26 ∧ Aside0 (gjson_validobject.j4 kq l0 x1_4 (rd l0 x1_4) x85_26 = some (r1, r2)) ∧ Aside0 (kq ≤ k4) ∧ Aside0 (Below w.heap.size w wc))
                                              case first =>
                                                have H := HC27.out
                                                clear HC27
                                                by_cases c28 : (rd l0 x1_4) = 32
                                                · rw [if_pos c28] at H
                                                  have c28b0 : ((rd l0 x1_4) == 32) = true := beq_iff_eq.mpr c28
                                                  have c28b1 : ((rd l0 x1_4) != 32) = false := bne_eq_false_iff_eq.mpr c28
                                                  clear c28
                                                  (first | rw [c28b0] | (simp only [i64_w, i32_w]; rw [c28b0]) | skip)
                                                  have H' := Aside0.mk H
                                                  clear H
                                                  go_wp2
                                                  go_meet
                                                  case rel => exact ⟨_, (((rd l0 x1_4) == 32)), (by first | rfl | (simp; done) | (simp [*]; done)), H', ⟨by have := HK1.out; have := HJ4.out; have := HK3.out; have := HK4.out; first | omega | exact Nat.le_refl _⟩, ⟨by repeat (first | (with_reducible first | exact HB.out | apply below_alloc | apply pw_below_drewN | apply below_drew1) | exact HB.out)⟩⟩
                                                · rw [if_neg c28] at H
                                                  have c28b0 : ((rd l0 x1_4) == 32) = false := beq_eq_false_iff_ne.mpr c28
                                                  have c28b1 : ((rd l0 x1_4) != 32) = true := bne_iff_ne.mpr c28
                                                  (first | rw [c28b0] | (simp only [i64_w, i32_w]; rw [c28b0]) | skip)
                                                  by_cases c29 : (rd l0 x1_4) = 9
                                                  · rw [if_pos c29] at H
                                                    have c29b0 : ((rd l0 x1_4) == 9) = true := beq_iff_eq.mpr c29
                                                    have c29b1 : ((rd l0 x1_4) != 9) = false := bne_eq_false_iff_eq.mpr c29
                                                    clear c29
                                                    have H' := Aside0.mk H
                                                    clear H
                                                    go_wp2
                                                    go_meet
                                                    case rel => exact ⟨_, (((rd l0 x1_4) == 9)), (by first | rfl | (simp; done) | (simp [*]; done)), H', ⟨by have := HK1.out; have := HJ4.out; have := HK3.out; have := HK4.out; first | omega | exact Nat.le_refl _⟩, ⟨by repeat (first | (with_reducible first | exact HB.out | apply below_alloc | apply pw_below_drewN | apply below_drew1) | exact HB.out)⟩⟩
                                                  · rw [if_neg c29] at H
                                                    have c29b0 : ((rd l0 x1_4) == 9) = false := beq_eq_false_iff_ne.mpr c29
                                                    have c29b1 : ((rd l0 x1_4) != 9) = true := bne_iff_ne.mpr c29
                                                    by_cases c30 : (rd l0 x1_4) = 10
                                                    · rw [if_pos c30] at H
                                                      have c30b0 : ((rd l0 x1_4) == 10) = true := beq_iff_eq.mpr c30
                                                      have c30b1 : ((rd l0 x1_4) != 10) = false := bne_eq_false_iff_eq.mpr c30
                                                      clear c30
                                                      have H' := Aside0.mk H
                                                      clear H
                                                      go_wp2
                                                      go_meet
                                                      case rel => exact ⟨_, (((rd l0 x1_4) == 10)), (by first | rfl | (simp; done) | (simp [*]; done)), H', ⟨by have := HK1.out; have := HJ4.out; have := HK3.out; have := HK4.out; first | omega | exact Nat.le_refl _⟩, ⟨by repeat (first | (with_reducible first | exact HB.out | apply below_alloc | apply pw_below_drewN | apply below_drew1) | exact HB.out)⟩⟩
                                                    · rw [if_neg c30] at H
                                                      have c30b0 : ((rd l0 x1_4) == 10) = false := beq_eq_false_iff_ne.mpr c30
                                                      have c30b1 : ((rd l0 x1_4) != 10) = true := bne_iff_ne.mpr c30
                                                      have H' := Aside0.mk H
                                                      clear H
                                                      go_wp2
                                                      go_meet
                                                      case rel => exact ⟨_, (((rd l0 x1_4) == 13)), (by first | rfl | (simp; done) | (simp [*]; done)), H', ⟨by have := HK1.out; have := HJ4.out; have := HK3.out; have := HK4.out; first | omega | exact Nat.le_refl _⟩, ⟨by repeat (first | (with_reducible first | exact HB.out | apply below_alloc | apply pw_below_drewN | apply below_drew1) | exact HB.out)⟩⟩
                                              case rest =>
                                                clear HC27
                                                try clear c1
                                                try clear c2
                                                try clear p2
                                                try clear c3
                                                try clear c3b0
                                                try clear p3
                                                try clear q3
                                                try clear hx3
                                                try clear c4
                                                try clear c4b0
                                                try clear c6
                                                try clear c6b0
                                                try clear c6b1
                                                try clear p6
                                                try clear c7
                                                try clear c7b0
                                                try clear c7b1
                                                try clear c8
                                                try clear c8b0
                                                try clear c8b1
                                                try clear c9
                                                try clear c10
                                                try clear c10b0
                                                try clear c10b1
                                                try clear c11
                                                try clear c11b0
                                                try clear c11b1
                                                try clear c13
                                                try clear c15
                                                try clear c17
                                                try clear c19
                                                try clear c20
                                                try clear c20b0
                                                try clear c21
                                                try clear c21b0
                                                try clear c22
                                                try clear c22b0
                                                try clear c22b1
                                                try clear c24
                                                try clear c25
                                                try clear c25b0
                                                try clear c26
                                                try clear c26b0
                                                try clear c27
                                                try clear c28
                                                try clear c28b0
                                                try clear c28b1
                                                try clear c29
                                                try clear c29b0
                                                try clear c29b1
                                                try clear c30
                                                try clear c30b0
                                                try clear c30b1
                                                try clear hx321_0
                                                try clear hx330_0
                                                try clear hx331_0
                                                try clear p2
                                                try clear p3
                                                try clear p321
                                                try clear p330
                                                try clear p331
                                                try clear p6
                                                try clear q3
                                                try clear q321
                                                try clear q330
                                                try clear q331
                                                obtain ⟨kq, x85_26, rfl, HA, HJ26, HB⟩ := hcut
                                                cases kq with
                                                | zero => exact absurd HA.out (by simp [gjson_validobject.j4])
                                                | succ kj26 =>
                                                  have H := HA.out
                                                  clear HA
                                                  simp only [gjson_validobject.j4] at H
                                                  by_cases c31 : x85_26 = true
                                                  · subst c31
                                                    have H1 : (gjson_validobject.l2 kj26 l0 (wrap64 (x1_4 + 1))) = some (r1, r2) := by rw [if_pos rfl] at H; exact H
                                                    clear H
                                                    have H := H1
                                                    clear H1
                                                    have H' := Aside0.mk H
                                                    clear H
                                                    go_wp2
                                                    go_roundg kj26
                                                    case measure => have := HK1.out; have := HJ4.out; have := HK3.out; have := HK4.out; have := HJ26.out; omega
                                                    case rel => exact ⟨(wrap64 (x1_4 + 1)), (by first | rfl | (simp; done) | (simp [*]; done)), H', ⟨by have := HK1.out; have := HJ4.out; have := HK3.out; have := HK4.out; have := HJ26.out; omega⟩, ⟨by repeat (first | (with_reducible first | exact HB.out | apply below_alloc | apply pw_below_drewN | apply below_drew1) | exact HB.out)⟩⟩
                                                  · replace c31 := Bool.eq_false_iff.mpr c31
                                                    subst c31
                                                    have H1 : (if (rd l0 x1_4) = 34 then (gjson_validobject.l1 kj26 l0 x1_4) else (some (x1_4, false))) = some (r1, r2) := by rw [if_neg (show ¬ (false = true) by decide)] at H; exact H
                                                    clear H
                                                    have H := H1
                                                    clear H1
                                                    by_cases c32 : (rd l0 x1_4) = 34
                                                    · rw [if_pos c32] at H
                                                      have c32b0 : ((rd l0 x1_4) == 34) = true := beq_iff_eq.mpr c32
                                                      have c32b1 : ((rd l0 x1_4) != 34) = false := bne_eq_false_iff_eq.mpr c32
                                                      clear c32
                                                      have H' := Aside0.mk H
                                                      clear H
                                                      go_wp2
                                                      (try go_step3)
                                                      refine hand_goto (l := 0) hKJl1 kj26 (by have := HK1.out; have := HJ4.out; have := HK3.out; have := HK4.out; have := HJ26.out; omega) ?_
                                                      exact ⟨(x1_4), _, _, _, _, _, _, _, _, _, _, _, _, _, _, _, _, _, _, _, _, _, _, _, _, _, _, _, _, _, _, _, _, _, _, _, _, _, _, _, _, _, _, _, _, _, _, _, _, _, _, _, _, _, _, _, _, _, _, _, _, _, _, _, _, _, _, _, _, _, _, _, _, _, _, _, _, _, _, _, _, _, _, _, _, _, _, _, _, _, _, _, _, H', ⟨by have := HK1.out; have := HJ4.out; have := HK3.out; have := HK4.out; have := HJ26.out; omega⟩, ⟨by repeat (first | (with_reducible first | exact HB.out | apply below_alloc | apply pw_below_drewN | apply below_drew1) | exact HB.out)⟩, rfl⟩
                                                    · rw [if_neg c32] at H
                                                      have c32b0 : ((rd l0 x1_4) == 34) = false := beq_eq_false_iff_ne.mpr c32
                                                      have c32b1 : ((rd l0 x1_4) != 34) = true := bne_iff_ne.mpr c32
                                                      simp only [Option.some.injEq, Prod.mk.injEq] at H
                                                      obtain ⟨rfl, rfl⟩ := H
                                                      go_wp2
                                                      (try simp only [Exit.jump, Exit.inBlock, Exit.then])
                                                      go_ret2
                                                      exact ⟨by first | rfl | (simp [errW_none, errW_some] <;> rfl) | (simp [*, errW_none, errW_some] <;> rfl), by repeat (first | (with_reducible first | exact HB.out | apply below_alloc | apply pw_below_drewN | apply below_drew1) | exact HB.out)⟩
                                            · rw [if_neg c26] at H
                                              exact absurd H (by simp)
                                          · rw [if_neg c25] at H
                                            have c25b0 : decide (x1_4 < (l0.length : Int)) = false := decide_eq_false c25
                                            clear c25
                                            simp only [Option.some.injEq, Prod.mk.injEq] at H
                                            obtain ⟨rfl, rfl⟩ := H
                                            go_wp2
                                            (try simp only [Exit.jump, Exit.inBlock, Exit.then])
                                            go_ret2
                                            exact ⟨by first | rfl | (simp [errW_none, errW_some] <;> rfl) | (simp [*, errW_none, errW_some] <;> rfl), by repeat (first | (with_reducible first | exact HB.out | apply below_alloc | apply pw_below_drewN | apply below_drew1) | exact HB.out)⟩
                                  · rw [if_neg c21] at H
                                    exact absurd H (by simp)
                                · rw [if_neg c20] at H
                                  exact absurd H (by simp)
                              · replace c19 := Bool.eq_false_iff.mpr c19
                                subst c19
                                have H1 : (some (t328, false)) = some (r1, r2) := by rw [if_neg (show ¬ (false = true) by decide)] at H; exact H
                                clear H
                                have H := H1
                                clear H1
                                simp only [Option.some.injEq, Prod.mk.injEq] at H
                                obtain ⟨rfl, rfl⟩ := H
                                go_wp2_with (first | ((with_reducible refine gate_callee (f := 27) rfl ?_); refine goesL_ (some 32) rfl rfl Try.func27 (by kernel_rfl) rfl #[.slice (some ad321) l0.length c0, .int .i64 (wrap64 (x1_3 + 1))] rfl (by (try simp only [List.map_toArray, List.map_cons, List.map_nil]); first | done | rfl | (simp only [List.length_drop, List.length_take]; rfl)) ?_; (with_reducible refine (gjson_validstring.calls k3 _ _ l0 (wrap64 (x1_3 + 1)) t322 true _ ?side1 ?side2 A12.out).mono ?_); (case side1 => repeat (first | exact (Kd.C_below HR0.out HB.out) | (with_reducible refine Kd.C_alloc ?_ _) | (with_reducible refine Kd.C_drewN ?_ _) | (with_reducible refine Kd.C_drew ?_))); (case side2 => exact HC0.out); rintro e w' ⟨rfl, ⟨nd, rfl⟩⟩; refine ⟨_, rfl, ?_⟩) | ((with_reducible refine gate_callee (f := 32) rfl ?_); refine goesL_ (some 41) rfl rfl Try.func32 (by kernel_rfl) rfl #[.slice (some ad321) l0.length c0, .int .i64 t322] rfl (by (try simp only [List.map_toArray, List.map_cons, List.map_nil]); first | done | rfl | (simp only [List.length_drop, List.length_take]; rfl)) ?_; (with_reducible refine (gjson_validcolon.calls k3 _ _ l0 t322 t324 true _ ?side1 ?side2 A14.out).mono ?_); (case side1 => repeat (first | exact (Kd.C_below HR0.out (by repeat (first | (with_reducible first | exact HB.out | apply below_alloc | apply pw_below_drewN | apply below_drew1) | exact HB.out))) | (with_reducible refine Kd.C_alloc ?_ _) | (with_reducible refine Kd.C_drewN ?_ _) | (with_reducible refine Kd.C_drew ?_))); (case side2 => exact HC0.out); rintro e w' ⟨rfl, ⟨nd, rfl⟩⟩; refine ⟨_, rfl, ?_⟩) | ((with_reducible refine gate_callee (f := 24) rfl ?_); refine goesL_ (some 50) rfl rfl Try.func24 (by kernel_rfl) rfl #[.slice (some ad321) l0.length c0, .int .i64 t324] rfl (by (try simp only [List.map_toArray, List.map_cons, List.map_nil]); first | done | rfl | (simp only [List.length_drop, List.length_take]; rfl)) ?_; (with_reducible refine ((IHG.out k3 (by have := HK1.out; have := HJ4.out; have := HK3.out; omega)).2.2  _ _ l0 t324 t326 true _ ?side1 ?side2 A16.out).mono ?_); (case side1 => repeat (first | exact (Kd.C_below HR0.out (by repeat (first | (with_reducible first | exact HB.out | apply below_alloc | apply pw_below_drewN | apply below_drew1) | exact HB.out))) | (with_reducible refine Kd.C_alloc ?_ _) | (with_reducible refine Kd.C_drewN ?_ _) | (with_reducible refine Kd.C_drew ?_))); (case side2 => exact HC0.out); rintro e w33 ⟨rfl, hb⟩; refine ⟨_, rfl, ?_⟩; have n0_ := Aside0.mk (below_step (by repeat (first | (with_reducible first | exact HB.out | apply below_alloc | apply pw_below_drewN | apply below_drew1) | exact HB.out)) hb); clear HB; have HB := n0_; clear n0_; (try clear hb); (try clear hb2); (try clear hk); (try clear hi)) | ((with_reducible refine gate_callee (f := 33) rfl ?_); refine goesL_ (some 59) rfl rfl Try.func33 (by kernel_rfl) rfl #[.slice (some ad321) l0.length c0, .int .i64 t326, .int .u8 125] rfl (by (try simp only [List.map_toArray, List.map_cons, List.map_nil]); first | done | rfl | (simp only [List.length_drop, List.length_take]; rfl)) ?_; (with_reducible refine (gjson_validcomma.calls k3 _ _ l0 t326 125 t328 false _ ?side1 ?side2 A18.out).mono ?_); (case side1 => repeat (first | exact (Kd.C_below HR0.out HB.out) | (with_reducible refine Kd.C_alloc ?_ _) | (with_reducible refine Kd.C_drewN ?_ _) | (with_reducible refine Kd.C_drew ?_))); (case side2 => exact HC0.out); rintro e w' ⟨rfl, ⟨nd, rfl⟩⟩; refine ⟨_, rfl, ?_⟩))
                                (try simp only [Exit.jump, Exit.inBlock, Exit.then])
                                go_ret2
                                exact ⟨by first | rfl | (simp [errW_none, errW_some] <;> rfl) | (simp [*, errW_none, errW_some] <;> rfl), by repeat (first | (with_reducible first | exact HB.out | apply below_alloc | apply pw_below_drewN | apply below_drew1) | exact HB.out)⟩
                            · replace c17 := Bool.eq_false_iff.mpr c17
                              subst c17
                              have H1 : (some (t326, false)) = some (r1, r2) := by rw [if_neg (show ¬ (false = true) by decide)] at H; exact H
                              clear H
                              have H := H1
                              clear H1
                              simp only [Option.some.injEq, Prod.mk.injEq] at H
                              obtain ⟨rfl, rfl⟩ := H
                              go_wp2_with (first | ((with_reducible refine gate_callee (f := 27) rfl ?_); refine goesL_ (some 32) rfl rfl Try.func27 (by kernel_rfl) rfl #[.slice (some ad321) l0.length c0, .int .i64 (wrap64 (x1_3 + 1))] rfl (by (try simp only [List.map_toArray, List.map_cons, List.map_nil]); first | done | rfl | (simp only [List.length_drop, List.length_take]; rfl)) ?_; (with_reducible refine (gjson_validstring.calls k3 _ _ l0 (wrap64 (x1_3 + 1)) t322 true _ ?side1 ?side2 A12.out).mono ?_); (case side1 => repeat (first | exact (Kd.C_below HR0.out HB.out) | (with_reducible refine Kd.C_alloc ?_ _) | (with_reducible refine Kd.C_drewN ?_ _) | (with_reducible refine Kd.C_drew ?_))); (case side2 => exact HC0.out); rintro e w' ⟨rfl, ⟨nd, rfl⟩⟩; refine ⟨_, rfl, ?_⟩) | ((with_reducible refine gate_callee (f := 32) rfl ?_); refine goesL_ (some 41) rfl rfl Try.func32 (by kernel_rfl) rfl #[.slice (some ad321) l0.length c0, .int .i64 t322] rfl (by (try simp only [List.map_toArray, List.map_cons, List.map_nil]); first | done | rfl | (simp only [List.length_drop, List.length_take]; rfl)) ?_; (with_reducible refine (gjson_validcolon.calls k3 _ _ l0 t322 t324 true _ ?side1 ?side2 A14.out).mono ?_); (case side1 => repeat (first | exact (Kd.C_below HR0.out (by repeat (first | (with_reducible first | exact HB.out | apply below_alloc | apply pw_below_drewN | apply below_drew1) | exact HB.out))) | (with_reducible refine Kd.C_alloc ?_ _) | (with_reducible refine Kd.C_drewN ?_ _) | (with_reducible refine Kd.C_drew ?_))); (case side2 => exact HC0.out); rintro e w' ⟨rfl, ⟨nd, rfl⟩⟩; refine ⟨_, rfl, ?_⟩) | ((with_reducible refine gate_callee (f := 24) rfl ?_); refine goesL_ (some 50) rfl rfl Try.func24 (by kernel_rfl) rfl #[.slice (some ad321) l0.length c0, .int .i64 t324] rfl (by (try simp only [List.map_toArray, List.map_cons, List.map_nil]); first | done | rfl | (simp only [List.length_drop, List.length_take]; rfl)) ?_; (with_reducible refine ((IHG.out k3 (by have := HK1.out; have := HJ4.out; have := HK3.out; omega)).2.2  _ _ l0 t324 t326 false _ ?side1 ?side2 A16.out).mono ?_); (case side1 => repeat (first | exact (Kd.C_below HR0.out (by repeat (first | (with_reducible first | exact HB.out | apply below_alloc | apply pw_below_drewN | apply below_drew1) | exact HB.out))) | (with_reducible refine Kd.C_alloc ?_ _) | (with_reducible refine Kd.C_drewN ?_ _) | (with_reducible refine Kd.C_drew ?_))); (case side2 => exact HC0.out); rintro e w34 ⟨rfl, hb⟩; refine ⟨_, rfl, ?_⟩; have n0_ := Aside0.mk (below_step (by repeat (first | (with_reducible first | exact HB.out | apply below_alloc | apply pw_below_drewN | apply below_drew1) | exact HB.out)) hb); clear HB; have HB := n0_; clear n0_; (try clear hb); (try clear hb2); (try clear hk); (try clear hi)))
                              (try simp only [Exit.jump, Exit.inBlock, Exit.then])
                              go_ret2
                              exact ⟨by first | rfl | (simp [errW_none, errW_some] <;> rfl) | (simp [*, errW_none, errW_some] <;> rfl), by repeat (first | (with_reducible first | exact HB.out | apply below_alloc | apply pw_below_drewN | apply below_drew1) | exact HB.out)⟩
                          · replace c15 := Bool.eq_false_iff.mpr c15
                            subst c15
                            have H1 : (some (t324, false)) = some (r1, r2) := by rw [if_neg (show ¬ (false = true) by decide)] at H; exact H
                            clear H
                            have H := H1
                            clear H1
                            simp only [Option.some.injEq, Prod.mk.injEq] at H
                            obtain ⟨rfl, rfl⟩ := H
                            go_wp2_with (first | ((with_reducible refine gate_callee (f := 27) rfl ?_); refine goesL_ (some 32) rfl rfl Try.func27 (by kernel_rfl) rfl #[.slice (some ad321) l0.length c0, .int .i64 (wrap64 (x1_3 + 1))] rfl (by (try simp only [List.map_toArray, List.map_cons, List.map_nil]); first | done | rfl | (simp only [List.length_drop, List.length_take]; rfl)) ?_; (with_reducible refine (gjson_validstring.calls k3 _ _ l0 (wrap64 (x1_3 + 1)) t322 true _ ?side1 ?side2 A12.out).mono ?_); (case side1 => repeat (first | exact (Kd.C_below HR0.out HB.out) | (with_reducible refine Kd.C_alloc ?_ _) | (with_reducible refine Kd.C_drewN ?_ _) | (with_reducible refine Kd.C_drew ?_))); (case side2 => exact HC0.out); rintro e w' ⟨rfl, ⟨nd, rfl⟩⟩; refine ⟨_, rfl, ?_⟩) | ((with_reducible refine gate_callee (f := 32) rfl ?_); refine goesL_ (some 41) rfl rfl Try.func32 (by kernel_rfl) rfl #[.slice (some ad321) l0.length c0, .int .i64 t322] rfl (by (try simp only [List.map_toArray, List.map_cons, List.map_nil]); first | done | rfl | (simp only [List.length_drop, List.length_take]; rfl)) ?_; (with_reducible refine (gjson_validcolon.calls k3 _ _ l0 t322 t324 false _ ?side1 ?side2 A14.out).mono ?_); (case side1 => repeat (first | exact (Kd.C_below HR0.out (by repeat (first | (with_reducible first | exact HB.out | apply below_alloc | apply pw_below_drewN | apply below_drew1) | exact HB.out))) | (with_reducible refine Kd.C_alloc ?_ _) | (with_reducible refine Kd.C_drewN ?_ _) | (with_reducible refine Kd.C_drew ?_))); (case side2 => exact HC0.out); rintro e w' ⟨rfl, ⟨nd, rfl⟩⟩; refine ⟨_, rfl, ?_⟩))
                            (try simp only [Exit.jump, Exit.inBlock, Exit.then])
                            go_ret2
                            exact ⟨by first | rfl | (simp [errW_none, errW_some] <;> rfl) | (simp [*, errW_none, errW_some] <;> rfl), by repeat (first | (with_reducible first | exact HB.out | apply below_alloc | apply pw_below_drewN | apply below_drew1) | exact HB.out)⟩
                        · replace c13 := Bool.eq_false_iff.mpr c13
                          subst c13
                          have H1 : (some (t322, false)) = some (r1, r2) := by rw [if_neg (show ¬ (false = true) by decide)] at H; exact H
                          clear H
                          have H := H1
                          clear H1
                          simp only [Option.some.injEq, Prod.mk.injEq] at H
                          obtain ⟨rfl, rfl⟩ := H
                          go_wp2_with (first | ((with_reducible refine gate_callee (f := 27) rfl ?_); refine goesL_ (some 32) rfl rfl Try.func27 (by kernel_rfl) rfl #[.slice (some ad321) l0.length c0, .int .i64 (wrap64 (x1_3 + 1))] rfl (by (try simp only [List.map_toArray, List.map_cons, List.map_nil]); first | done | rfl | (simp only [List.length_drop, List.length_take]; rfl)) ?_; (with_reducible refine (gjson_validstring.calls k3 _ _ l0 (wrap64 (x1_3 + 1)) t322 false _ ?side1 ?side2 A12.out).mono ?_); (case side1 => repeat (first | exact (Kd.C_below HR0.out HB.out) | (with_reducible refine Kd.C_alloc ?_ _) | (with_reducible refine Kd.C_drewN ?_ _) | (with_reducible refine Kd.C_drew ?_))); (case side2 => exact HC0.out); rintro e w' ⟨rfl, ⟨nd, rfl⟩⟩; refine ⟨_, rfl, ?_⟩))
                          (try simp only [Exit.jump, Exit.inBlock, Exit.then])
                          go_ret2
                          exact ⟨by first | rfl | (simp [errW_none, errW_some] <;> rfl) | (simp [*, errW_none, errW_some] <;> rfl), by repeat (first | (with_reducible first | exact HB.out | apply below_alloc | apply pw_below_drewN | apply below_drew1) | exact HB.out)⟩
                  · rw [if_neg c11] at H
                    have c11b0 : ((rd l0 x1_1) == 34) = false := beq_eq_false_iff_ne.mpr c11
                    have c11b1 : ((rd l0 x1_1) != 34) = true := bne_iff_ne.mpr c11
                    simp only [Option.some.injEq, Prod.mk.injEq] at H
                    obtain ⟨rfl, rfl⟩ := H
                    go_wp2
                    (try simp only [Exit.jump, Exit.inBlock, Exit.then])
                    go_ret2
                    exact ⟨by first | rfl | (simp [errW_none, errW_some] <;> rfl) | (simp [*, errW_none, errW_some] <;> rfl), by repeat (first | (with_reducible first | exact HB.out | apply below_alloc | apply pw_below_drewN | apply below_drew1) | exact HB.out)⟩
        · rw [if_neg c4] at H
          exact absurd H (by simp)
      · rw [if_neg c3] at H
        have c3b0 : decide (x1_1 < (l0.length : Int)) = false := decide_eq_false c3
        clear c3
        simp only [Option.some.injEq, Prod.mk.injEq] at H
        obtain ⟨rfl, rfl⟩ := H
        go_wp2
        (try simp only [Exit.jump, Exit.inBlock, Exit.then])
        go_ret2
        exact ⟨by first | rfl | (simp [errW_none, errW_some] <;> rfl) | (simp [*, errW_none, errW_some] <;> rfl), by repeat (first | (with_reducible first | exact HB.out | apply below_alloc | apply pw_below_drewN | apply below_drew1) | exact HB.out)⟩

end Go.Proofs.Ytmbengbkeelpaaa.PFnGjIfValid
