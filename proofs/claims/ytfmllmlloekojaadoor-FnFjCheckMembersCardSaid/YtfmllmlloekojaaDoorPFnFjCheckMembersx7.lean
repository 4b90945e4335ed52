-- Written for this claim by this session's own program (wip/xprint).
import Derived.Test.YtfmllmlloekojaaDoorPFnFjCheckMembersx0
import Derived.Test.YtfmllmlloekojaaDoorPFnFjCheckMembersx1
import Derived.Test.YtfmllmlloekojaaDoorPFnFjCheckMembersx3
import Derived.Test.YtfmllmlloekojaaDoorPFnFjCheckMembersx6
namespace Go.Proofs.YtfmllmlloekojaaDoor.PFnFjCheckMembers
open Go.RowKit Go.Proofs.YtfmllmlloekojaaDoorW.PrintWords Go.Proofs.YtfmllmlloekojaaDoorW.PrintLast Go.Proofs.YtfmllmlloekojaaDoorW.PrintMore
attribute [local go_sem] max2_int min2_int max_two min_two max_three min_three max_four min_four   -- for this text's walks alone
set_option linter.unusedVariables false
set_option linter.unusedSimpArgs false

/-! ### fastjson_validateObject: function 66 -/
set_option maxHeartbeats 8000000 in
set_option maxRecDepth 100000 in
theorem fastjson_validateObject.step (k : Nat) (ih0_ : ∀ m, m < k → fastjson_validateObject.At m ∧ fastjson_validateArray.At m ∧ fastjson_validateValue.At m) : fastjson_validateObject.At k := by
  have IHG := Aside0.mk ih0_
  clear ih0_
  intro a0 r1 r2 w hL h
  cases k with
  | zero => exact absurd h (by simp [fastjson_validateObject.f])
  | succ k =>
  simp only [fastjson_validateObject.f] at h
  have hu67 := Tryd.underlying67
  have HB := Aside0.mk (Below.refl w.heap.size w)
  have HLD := Aside0.mk hL
  clear hL
  have H : ((fastjson_skipWS.f k a0).bind fun t141 => (if (t141.size : Int) = 0 then ((errors_New.f (⟨#[109, 105, 115, 115, 105, 110, 103, 32, 39, 125]⟩ : ByteArray)).bind fun t142 => (some (t141, t142))) else (if 0 < (t141.size : Int) then (if (bt t141 0) = 125 then (if 1 ≤ (t141.size : Int) then (some (t141.extract 1 t141.size, none)) else (none)) else (fastjson_validateObject.l0 k t141)) else (none)))) = some (r1, r2) := h
  clear h
  replace H := Option.bind_eq_some_iff.mp H
  obtain ⟨t141, A20, H⟩ := H
  replace H : (if (t141.size : Int) = 0 then ((errors_New.f (⟨#[109, 105, 115, 115, 105, 110, 103, 32, 39, 125]⟩ : ByteArray)).bind fun t142 => (some (t141, t142))) else (if 0 < (t141.size : Int) then (if (bt t141 0) = 125 then (if 1 ≤ (t141.size : Int) then (some (t141.extract 1 t141.size, none)) else (none)) else (fastjson_validateObject.l0 k t141)) else (none))) = some (r1, r2) := H
  have A2 := Aside0.mk A20
  clear A20
  by_cases c3 : (t141.size : Int) = 0
  · rw [if_pos c3] at H
    have c3b0 : ((t141.size : Int) == 0) = true := beq_iff_eq.mpr c3
    have c3b1 : ((t141.size : Int) != 0) = false := bne_eq_false_iff_eq.mpr c3
    clear c3
    replace H := Option.bind_eq_some_iff.mp H
    obtain ⟨t142, A40, H⟩ := H
    replace H : (some (t141, t142)) = some (r1, r2) := H
    have A4 := Aside0.mk A40
    clear A40
    simp only [Option.some.injEq, Prod.mk.injEq] at H
    obtain ⟨rfl, rfl⟩ := H
    go_enter Tryd.func66, Tryd.ntmps66
    go_wp2_with (first | ((with_reducible refine gate_callee (f := 90) rfl ?_); refine goesL_ (some 8) rfl rfl Tryd.func90 (by kernel_rfl) rfl #[.string a0] rfl (by (try simp only [List.map_toArray, List.map_cons, List.map_nil]); first | done | rfl | (simp only [List.length_drop, List.length_take]; rfl)) ?_; (with_reducible refine (fastjson_skipWS.calls k a0 t141 _ A2.out).mono ?_); rintro e w' ⟨rfl, ⟨nd, rfl⟩⟩; refine ⟨_, rfl, ?_⟩) | ((with_reducible refine gate_callee (f := 84) rfl ?_); refine goesL_ (some 13) rfl rfl Tryd.func84 (by kernel_rfl) rfl #[.string (⟨#[109, 105, 115, 115, 105, 110, 103, 32, 39, 125]⟩ : ByteArray)] rfl (by (try simp only [List.map_toArray, List.map_cons, List.map_nil]); first | done | rfl | (simp only [List.length_drop, List.length_take]; rfl)) ?_; (with_reducible refine (errors_New.calls (⟨#[109, 105, 115, 115, 105, 110, 103, 32, 39, 125]⟩ : ByteArray) t142 _ A4.out).mono ?_); rintro e w5 ⟨ex_t142, rfl, hb⟩; refine ⟨_, rfl, ?_⟩; have n0_ := Aside0.mk (below_step (by repeat (first | (with_reducible first | exact HB.out | apply below_alloc | apply pw_below_drewN | apply below_drew1) | exact HB.out)) hb); clear HB; have HB := n0_; clear n0_; (try clear hb); (try clear hb2); (try clear hk); (try clear hi); (try simp only [errX_none, errX_some])))
    go_ret2
    first | exact ⟨ex_t142, by first | rfl | (simp [errX_none, errX_some] <;> rfl) | (simp [*, errX_none, errX_some] <;> rfl), by repeat (first | (with_reducible first | exact HB.out | apply below_alloc | apply pw_below_drewN | apply below_drew1) | exact HB.out)⟩ | exact ⟨ex_t142.1, ex_t142.2, by first | rfl | (simp [errX_none, errX_some] <;> rfl) | (simp [*, errX_none, errX_some] <;> rfl), by repeat (first | (with_reducible first | exact HB.out | apply below_alloc | apply pw_below_drewN | apply below_drew1) | exact HB.out)⟩ | exact ⟨⟨ex_t142, by first | rfl | (simp [errX_none, errX_some] <;> rfl) | (simp [*, errX_none, errX_some] <;> rfl)⟩, by repeat (first | (with_reducible first | exact HB.out | apply below_alloc | apply pw_below_drewN | apply below_drew1) | exact HB.out)⟩ | exact ⟨⟨ex_t142.1, ex_t142.2, by first | rfl | (simp [errX_none, errX_some] <;> rfl) | (simp [*, errX_none, errX_some] <;> rfl)⟩, by repeat (first | (with_reducible first | exact HB.out | apply below_alloc | apply pw_below_drewN | apply below_drew1) | exact HB.out)⟩
  · rw [if_neg c3] at H
    have c3b0 : ((t141.size : Int) == 0) = false := beq_eq_false_iff_ne.mpr c3
    have c3b1 : ((t141.size : Int) != 0) = true := bne_iff_ne.mpr c3
    by_cases c6 : 0 < (t141.size : Int)
    · rw [if_pos c6] at H
      have c6b0 : decide (0 < (t141.size : Int)) = true := decide_eq_true c6
      have c6b1 : decide (0 < t141.size) = true := decide_eq_true (by omega)
      clear c6
      by_cases c8 : (bt t141 0) = 125
      · rw [if_pos c8] at H
        have c8b0 : ((bt t141 0) == 125) = true := beq_iff_eq.mpr c8
        have c8b1 : ((bt t141 0) != 125) = false := bne_eq_false_iff_eq.mpr c8
        clear c8
        by_cases c9 : 1 ≤ (t141.size : Int)
        · rw [if_pos c9] at H
          have c9b0 := eq_true c9
          have c9b1 : decide (1 ≤ (t141.size : Int)) = true := decide_eq_true c9
          clear c9
          simp only [Option.some.injEq, Prod.mk.injEq] at H
          obtain ⟨rfl, rfl⟩ := H
          go_enter Tryd.func66, Tryd.ntmps66
          go_wp2_with (first | ((with_reducible refine gate_callee (f := 90) rfl ?_); refine goesL_ (some 8) rfl rfl Tryd.func90 (by kernel_rfl) rfl #[.string a0] rfl (by (try simp only [List.map_toArray, List.map_cons, List.map_nil]); first | done | rfl | (simp only [List.length_drop, List.length_take]; rfl)) ?_; (with_reducible refine (fastjson_skipWS.calls k a0 t141 _ A2.out).mono ?_); rintro e w' ⟨rfl, ⟨nd, rfl⟩⟩; refine ⟨_, rfl, ?_⟩; have p7 : 0 ≤ (0 : Int) := (by omega); have q7 : 0 < t141.size := (by have : (0 : Int) < (t141.size : Int) := of_decide_eq_true (by first | (with_reducible assumption) | assumption); omega); have hx7 : ∀ h : 0 < t141.size, ((t141[0]'h).toNat : Int) = bt t141 0 := bt_at t141 0; clear p7; have qi7 : (0 < (t141.size : Int)) = True := eq_true (of_decide_eq_true (by first | (with_reducible assumption) | assumption)); replace q7 := eq_true q7))
          go_ret2
          first | exact ⟨noX, by first | rfl | (simp [errX_none, errX_some] <;> rfl) | (simp [*, errX_none, errX_some] <;> rfl), by repeat (first | (with_reducible first | exact HB.out | apply below_alloc | apply pw_below_drewN | apply below_drew1) | exact HB.out)⟩ | exact ⟨noX.1, noX.2, by first | rfl | (simp [errX_none, errX_some] <;> rfl) | (simp [*, errX_none, errX_some] <;> rfl), by repeat (first | (with_reducible first | exact HB.out | apply below_alloc | apply pw_below_drewN | apply below_drew1) | exact HB.out)⟩ | exact ⟨⟨noX, by first | rfl | (simp [errX_none, errX_some] <;> rfl) | (simp [*, errX_none, errX_some] <;> rfl)⟩, by repeat (first | (with_reducible first | exact HB.out | apply below_alloc | apply pw_below_drewN | apply below_drew1) | exact HB.out)⟩ | exact ⟨⟨noX.1, noX.2, by first | rfl | (simp [errX_none, errX_some] <;> rfl) | (simp [*, errX_none, errX_some] <;> rfl)⟩, by repeat (first | (with_reducible first | exact HB.out | apply below_alloc | apply pw_below_drewN | apply below_drew1) | exact HB.out)⟩
        · rw [if_neg c9] at H
          exact absurd H (by simp)
      · rw [if_neg c8] at H
        have c8b0 : ((bt t141 0) == 125) = false := beq_eq_false_iff_ne.mpr c8
        have c8b1 : ((bt t141 0) != 125) = true := bne_iff_ne.mpr c8
        have H' := Aside0.mk H
        clear H
        go_enter Tryd.func66, Tryd.ntmps66
        go_wp2_with (first | ((with_reducible refine gate_callee (f := 90) rfl ?_); refine goesL_ (some 8) rfl rfl Tryd.func90 (by kernel_rfl) rfl #[.string a0] rfl (by (try simp only [List.map_toArray, List.map_cons, List.map_nil]); first | done | rfl | (simp only [List.length_drop, List.length_take]; rfl)) ?_; (with_reducible refine (fastjson_skipWS.calls k a0 t141 _ A2.out).mono ?_); rintro e w' ⟨rfl, ⟨nd, rfl⟩⟩; refine ⟨_, rfl, ?_⟩; have p7 : 0 ≤ (0 : Int) := (by omega); have q7 : 0 < t141.size := (by have : (0 : Int) < (t141.size : Int) := of_decide_eq_true (by first | (with_reducible assumption) | assumption); omega); have hx7 : ∀ h : 0 < t141.size, ((t141[0]'h).toNat : Int) = bt t141 0 := bt_at t141 0; clear p7; have qi7 : (0 < (t141.size : Int)) = True := eq_true (of_decide_eq_true (by first | (with_reducible assumption) | assumption)); replace q7 := eq_true q7))
        (try simp only [Act.put, List.setIfInBounds_toArray, List.set_cons_zero, List.set_cons_succ])
        go_loopg [0] k (fun kq v0 w' => ∃ (x0_1 : ByteArray), v0 = .string x0_1 ∧ Aside0 (fastjson_validateObject.l0 kq x0_1 = some (r1, r2)) ∧ Aside0 (kq ≤ k) ∧ Aside0 (Below w.heap.size w w'))
        case atStart => exact ⟨(t141), (by first | rfl | (simp; done) | (simp [*]; done)), H', ⟨Nat.le_refl _⟩, ⟨by repeat (first | (with_reducible first | exact HB.out | apply below_alloc | apply pw_below_drewN | apply below_drew1) | exact HB.out)⟩⟩
        case round =>
          clear H'
          try clear p2
          try clear c3
          try clear c3b0
          try clear c3b1
          try clear c6
          try clear c6b0
          try clear c6b1
          try clear p7
          try clear q7
          try clear hx7
          try clear qi7
          try clear c8
          try clear c8b0
          try clear c8b1
          try clear c9
          try clear c9b0
          try clear c9b1
          try clear p7
          try clear q7
          obtain ⟨x0_1, rfl, HA, HK1, HB⟩ := hrel
          cases gk with
          | zero => exact absurd HA.out (by simp [fastjson_validateObject.l0])
          | succ k1 =>
            have H := HA.out
            clear HA
            simp only [fastjson_validateObject.l0] at H
            replace H := Option.bind_eq_some_iff.mp H
            obtain ⟨t143, A100, H⟩ := H
            replace H : (if (t143.size : Int) = 0 then (fastjson_validateObject.j1 k1 t143 true) else (if 0 < (t143.size : Int) then (fastjson_validateObject.j1 k1 t143 ((bt t143 0) != 34)) else (none))) = some (r1, r2) := H
            have A10 := Aside0.mk A100
            clear A100
            have HC11 := Aside0.mk H
            clear H
            go_upto_region 8 with (first | ((with_reducible refine gate_callee (f := 90) rfl ?_); refine goesL_ (some 20) rfl rfl Tryd.func90 (by kernel_rfl) rfl #[.string x0_1] rfl (by (try simp only [List.map_toArray, List.map_cons, List.map_nil]); first | done | rfl | (simp only [List.length_drop, List.length_take]; rfl)) ?_; (with_reducible refine (fastjson_skipWS.calls k1 x0_1 t143 _ A10.out).mono ?_); rintro e w' ⟨rfl, ⟨nd, rfl⟩⟩; refine ⟨_, rfl, ?_⟩))
            (try simp only [Act.put, List.setIfInBounds_toArray, List.set_cons_zero, List.set_cons_succ])
            go_cut [28] (fun v28 wc => ∃ (kq : Nat) (x28_10 : Bool), v28 = .bool x28_10 ∧ Aside0 (fastjson_validateObject.j1 kq t143 x28_10 = some (r1, r2)) ∧ Aside0 (kq ≤ k1) ∧ Aside0 (Below w.heap.size w wc))
            case first =>
              have H := HC11.out
              clear HC11
              by_cases c12 : (t143.size : Int) = 0
              · rw [if_pos c12] at H
                have c12b0 : ((t143.size : Int) == 0) = true := beq_iff_eq.mpr c12
                have c12b1 : ((t143.size : Int) != 0) = false := bne_eq_false_iff_eq.mpr c12
                clear c12
                (first | rw [c12b0] | (simp only [i64_w, i32_w]; rw [c12b0]) | skip)
                have H' := Aside0.mk H
                clear H
                go_wp2
                (first | go_meet | (rw [← c3b0]; go_meet) | (rw [← c8b0]; go_meet) | (rw [← c12b0]; go_meet))
                case rel => exact ⟨_, (true), (by first | rfl | (simp; done) | (simp [*]; done)), H', ⟨by have := HK1.out; first | omega | exact Nat.le_refl _⟩, ⟨by repeat (first | (with_reducible first | exact HB.out | apply below_alloc | apply pw_below_drewN | apply below_drew1) | exact HB.out)⟩⟩
              · rw [if_neg c12] at H
                have c12b0 : ((t143.size : Int) == 0) = false := beq_eq_false_iff_ne.mpr c12
                have c12b1 : ((t143.size : Int) != 0) = true := bne_iff_ne.mpr c12
                (first | rw [c12b0] | (simp only [i64_w, i32_w]; rw [c12b0]) | skip)
                by_cases c13 : 0 < (t143.size : Int)
                · rw [if_pos c13] at H
                  have c13b0 : decide (0 < (t143.size : Int)) = true := decide_eq_true c13
                  have c13b1 : decide (0 < t143.size) = true := decide_eq_true (by omega)
                  clear c13
                  have H' := Aside0.mk H
                  clear H
                  have p14 : 0 ≤ (0 : Int) := (by omega)
                  have q14 : 0 < t143.size := (by have : (0 : Int) < (t143.size : Int) := of_decide_eq_true (by first | (with_reducible assumption) | assumption); omega)
                  have hx14 : ∀ h : 0 < t143.size, ((t143[0]'h).toNat : Int) = bt t143 0 := bt_at t143 0
                  clear p14
                  have qi14 : (0 < (t143.size : Int)) = True := eq_true (of_decide_eq_true (by first | (with_reducible assumption) | assumption))
                  replace q14 := eq_true q14
                  go_wp2
                  (first | go_meet | (rw [← c3b0]; go_meet) | (rw [← c8b0]; go_meet) | (rw [← c12b0]; go_meet))
                  case rel => exact ⟨_, (((bt t143 0) != 34)), (by first | rfl | (simp; done) | (simp [*]; done)), H', ⟨by have := HK1.out; first | omega | exact Nat.le_refl _⟩, ⟨by repeat (first | (with_reducible first | exact HB.out | apply below_alloc | apply pw_below_drewN | apply below_drew1) | exact HB.out)⟩⟩
                · rw [if_neg c13] at H
                  exact absurd H (by simp)
            case rest =>
              clear HC11
              try clear c1
              try clear p1
              try clear q1
              try clear hx1
              try clear qi1
              try clear p2
              try clear c3
              try clear c3b0
              try clear c3b1
              try clear c6
              try clear c6b0
              try clear c6b1
              try clear p7
              try clear q7
              try clear hx7
              try clear qi7
              try clear c8
              try clear c8b0
              try clear c8b1
              try clear c9
              try clear c9b0
              try clear c9b1
              try clear c12
              try clear c12b0
              try clear c12b1
              try clear c13
              try clear c13b0
              try clear c13b1
              try clear p14
              try clear q14
              try clear hx14
              try clear qi14
              try clear p14
              try clear p2
              try clear p7
              try clear q14
              try clear q7
              obtain ⟨kq, x28_10, rfl, HA, HJ10, HB⟩ := hcut
              cases kq with
              | zero => exact absurd HA.out (by simp [fastjson_validateObject.j1])
              | succ kj10 =>
                have H := HA.out
                clear HA
                simp only [fastjson_validateObject.j1] at H
                by_cases c15 : x28_10 = true
                · subst c15
                  have H1 : ((errors_New.f (⟨#[99, 97, 110, 110, 111, 116, 32, 102, 105, 110, 100, 32, 111, 112, 101, 110, 105, 110, 103, 32, 39, 34, 34, 32, 102, 111, 114, 32, 111, 98, 106, 101, 99, 116, 32, 107, 101, 121]⟩ : ByteArray)).bind fun t144 => (some (t143, t144))) = some (r1, r2) := by rw [if_pos rfl] at H; exact H
                  clear H
                  have H := H1
                  clear H1
                  replace H := Option.bind_eq_some_iff.mp H
                  obtain ⟨t144, A160, H⟩ := H
                  replace H : (some (t143, t144)) = some (r1, r2) := H
                  have A16 := Aside0.mk A160
                  clear A160
                  simp only [Option.some.injEq, Prod.mk.injEq] at H
                  obtain ⟨rfl, rfl⟩ := H
                  go_wp2_with (first | ((with_reducible refine gate_callee (f := 84) rfl ?_); refine goesL_ (some 30) rfl rfl Tryd.func84 (by kernel_rfl) rfl #[.string (⟨#[99, 97, 110, 110, 111, 116, 32, 102, 105, 110, 100, 32, 111, 112, 101, 110, 105, 110, 103, 32, 39, 34, 34, 32, 102, 111, 114, 32, 111, 98, 106, 101, 99, 116, 32, 107, 101, 121]⟩ : ByteArray)] rfl (by (try simp only [List.map_toArray, List.map_cons, List.map_nil]); first | done | rfl | (simp only [List.length_drop, List.length_take]; rfl)) ?_; (with_reducible refine (errors_New.calls (⟨#[99, 97, 110, 110, 111, 116, 32, 102, 105, 110, 100, 32, 111, 112, 101, 110, 105, 110, 103, 32, 39, 34, 34, 32, 102, 111, 114, 32, 111, 98, 106, 101, 99, 116, 32, 107, 101, 121]⟩ : ByteArray) t144 _ A16.out).mono ?_); rintro e w17 ⟨ex_t144, rfl, hb⟩; refine ⟨_, rfl, ?_⟩; have n0_ := Aside0.mk (below_step (by repeat (first | (with_reducible first | exact HB.out | apply below_alloc | apply pw_below_drewN | apply below_drew1) | exact HB.out)) hb); clear HB; have HB := n0_; clear n0_; (try clear hb); (try clear hb2); (try clear hk); (try clear hi); (try simp only [errX_none, errX_some])))
                  go_ret2
                  first | exact ⟨ex_t144, by first | rfl | (simp [errX_none, errX_some] <;> rfl) | (simp [*, errX_none, errX_some] <;> rfl), by repeat (first | (with_reducible first | exact HB.out | apply below_alloc | apply pw_below_drewN | apply below_drew1) | exact HB.out)⟩ | exact ⟨ex_t144.1, ex_t144.2, by first | rfl | (simp [errX_none, errX_some] <;> rfl) | (simp [*, errX_none, errX_some] <;> rfl), by repeat (first | (with_reducible first | exact HB.out | apply below_alloc | apply pw_below_drewN | apply below_drew1) | exact HB.out)⟩ | exact ⟨⟨ex_t144, by first | rfl | (simp [errX_none, errX_some] <;> rfl) | (simp [*, errX_none, errX_some] <;> rfl)⟩, by repeat (first | (with_reducible first | exact HB.out | apply below_alloc | apply pw_below_drewN | apply below_drew1) | exact HB.out)⟩ | exact ⟨⟨ex_t144.1, ex_t144.2, by first | rfl | (simp [errX_none, errX_some] <;> rfl) | (simp [*, errX_none, errX_some] <;> rfl)⟩, by repeat (first | (with_reducible first | exact HB.out | apply below_alloc | apply pw_below_drewN | apply below_drew1) | exact HB.out)⟩
                · replace c15 := Bool.eq_false_iff.mpr c15
                  subst c15
                  have H1 : (if 1 ≤ (t143.size : Int) then ((fastjson_validateKey.f kj10 (t143.extract 1 t143.size)).bind fun bt145 => (if bt145.2.2.isNone = true then (fastjson_validateObject.l1 kj10 bt145.2.1 bt145.1 (bt145.1.size : Int) 0) else ((errors_New.f (⟨#[99, 97, 110, 110, 111, 116, 32, 112, 97, 114, 115, 101, 32, 111, 98, 106, 101, 99, 116, 32, 107, 101, 121]⟩ : ByteArray)).bind fun t160 => (some (bt145.2.1, t160))))) else (none)) = some (r1, r2) := by rw [if_neg (show ¬ (false = true) by decide)] at H; exact H
                  clear H
                  have H := H1
                  clear H1
                  by_cases c18 : 1 ≤ (t143.size : Int)
                  · rw [if_pos c18] at H
                    have c18b0 := eq_true c18
                    have c18b1 : decide (1 ≤ (t143.size : Int)) = true := decide_eq_true c18
                    clear c18
                    replace H := Option.bind_eq_some_iff.mp H
                    obtain ⟨⟨t145, t146, t147⟩, A190, H⟩ := H
                    replace H : (if t147.isNone = true then (fastjson_validateObject.l1 kj10 t146 t145 (t145.size : Int) 0) else ((errors_New.f (⟨#[99, 97, 110, 110, 111, 116, 32, 112, 97, 114, 115, 101, 32, 111, 98, 106, 101, 99, 116, 32, 107, 101, 121]⟩ : ByteArray)).bind fun t160 => (some (t146, t160)))) = some (r1, r2) := H
                    have A19 := Aside0.mk A190
                    clear A190
                    rcases t147 with _ | q148
                    · have H1 : (fastjson_validateObject.l1 kj10 t146 t145 (t145.size : Int) 0) = some (r1, r2) := by rw [if_pos (show (none : Option Int).isNone = true by rfl)] at H; exact H
                      clear H
                      have H := H1
                      clear H1
                      try simp only [errX_none, errX_some]
                      have H' := Aside0.mk H
                      clear H
                      go_wp2_with (first | ((with_reducible refine gate_callee (f := 91) rfl ?_); refine goesL_ (some 34) rfl rfl Tryd.func91 (by kernel_rfl) rfl #[.string (t143.extract 1 t143.size)] rfl (by (try simp only [List.map_toArray, List.map_cons, List.map_nil]); first | done | rfl | (simp only [List.length_drop, List.length_take]; rfl)) ?_; (with_reducible refine (fastjson_validateKey.calls kj10 (t143.extract 1 t143.size) t145 t146 none _ ?side1 A19.out).mono ?_); (case side1 => exact Laid.below HLD.out (by repeat (first | (with_reducible first | exact HB.out | apply below_alloc | apply pw_below_drewN | apply below_drew1) | exact HB.out))); rintro e w20 ⟨_, rfl, hb⟩; refine ⟨_, rfl, ?_⟩; have n0_ := Aside0.mk (below_step (by repeat (first | (with_reducible first | exact HB.out | apply below_alloc | apply pw_below_drewN | apply below_drew1) | exact HB.out)) hb); clear HB; have HB := n0_; clear n0_; (try clear hb); (try clear hb2); (try clear hk); (try clear hi); (try simp only [errX_none, errX_some])))
                      (try simp only [Act.put, List.setIfInBounds_toArray, List.set_cons_zero, List.set_cons_succ])
                      go_loopg [44] kj10 (fun kq v44 w' => ∃ (x44_3 : Int), v44 = .int .i64 x44_3 ∧ Aside0 (fastjson_validateObject.l1 kq t146 t145 (t145.size : Int) x44_3 = some (r1, r2)) ∧ Aside0 (kq ≤ kj10) ∧ Aside0 (Below w.heap.size w w'))
                      case atStart => exact ⟨(0), (by first | rfl | (simp; done) | (simp [*]; done)), H', ⟨Nat.le_refl _⟩, ⟨by repeat (first | (with_reducible first | exact HB.out | apply below_alloc | apply pw_below_drewN | apply below_drew1) | exact HB.out)⟩⟩
                      case round =>
                        clear H'
                        try clear c1
                        try clear p1
                        try clear q1
                        try clear hx1
                        try clear qi1
                        try clear p2
                        try clear c3
                        try clear c3b0
                        try clear c3b1
                        try clear c6
                        try clear c6b0
                        try clear c6b1
                        try clear p7
                        try clear q7
                        try clear hx7
                        try clear qi7
                        try clear c8
                        try clear c8b0
                        try clear c8b1
                        try clear c9
                        try clear c9b0
                        try clear c9b1
                        try clear c12
                        try clear c12b0
                        try clear c12b1
                        try clear c13
                        try clear c13b0
                        try clear c13b1
                        try clear p14
                        try clear q14
                        try clear hx14
                        try clear qi14
                        try clear c15
                        try clear c18
                        try clear c18b0
                        try clear c18b1
                        try clear p1
                        try clear p14
                        try clear p2
                        try clear p7
                        try clear q1
                        try clear q14
                        try clear q148
                        try clear q7
                        obtain ⟨x44_3, rfl, HA, HK3, HB⟩ := hrel
                        cases gk with
                        | zero => exact absurd HA.out (by simp [fastjson_validateObject.l1])
                        | succ k3 =>
                          have H := HA.out
                          clear HA
                          simp only [fastjson_validateObject.l1] at H
                          by_cases c21 : x44_3 < (t145.size : Int)
                          · rw [if_pos c21] at H
                            have c21b0 : decide (x44_3 < (t145.size : Int)) = true := decide_eq_true c21
                            clear c21
                            by_cases c22 : 0 ≤ x44_3
                            · rw [if_pos c22] at H
                              have c22b0 : decide (0 ≤ x44_3) = true := decide_eq_true c22
                              clear c22
                              by_cases c23 : x44_3 < (t145.size : Int)
                              · rw [if_pos c23] at H
                                have c23b0 : decide (x44_3 < (t145.size : Int)) = true := decide_eq_true c23
                                clear c23
                                by_cases c25 : (bt t145 x44_3) < 32
                                · rw [if_pos c25] at H
                                  have c25b0 : decide ((bt t145 x44_3) < 32) = true := decide_eq_true c25
                                  clear c25
                                  replace H := Option.bind_eq_some_iff.mp H
                                  obtain ⟨t149, A260, H⟩ := H
                                  replace H : (some (t146, t149)) = some (r1, r2) := H
                                  have A26 := Aside0.mk A260
                                  clear A260
                                  simp only [Option.some.injEq, Prod.mk.injEq] at H
                                  obtain ⟨rfl, rfl⟩ := H
                                  have p24 : 0 ≤ (x44_3 : Int) := of_decide_eq_true (by first | (with_reducible assumption) | assumption)
                                  have q24 : x44_3 < (t145.size : Int) := of_decide_eq_true (by first | (with_reducible assumption) | assumption)
                                  have hx24 := bt_at t145 x44_3
                                  replace p24 := eq_true p24
                                  replace q24 := eq_true q24
                                  go_wp2_with (first | ((with_reducible refine gate_callee (f := 84) rfl ?_); refine goesL_ (some 52) rfl rfl Tryd.func84 (by kernel_rfl) rfl #[.string (⟨#[111, 98, 106, 101, 99, 116, 32, 107, 101, 121, 32, 99, 97, 110, 110, 111, 116, 32, 99, 111, 110, 116, 97, 105, 110, 32, 99, 111, 110, 116, 114, 111, 108, 32, 99, 104, 97, 114, 32, 48, 120]⟩ : ByteArray)] rfl (by (try simp only [List.map_toArray, List.map_cons, List.map_nil]); first | done | rfl | (simp only [List.length_drop, List.length_take]; rfl)) ?_; (with_reducible refine (errors_New.calls (⟨#[111, 98, 106, 101, 99, 116, 32, 107, 101, 121, 32, 99, 97, 110, 110, 111, 116, 32, 99, 111, 110, 116, 97, 105, 110, 32, 99, 111, 110, 116, 114, 111, 108, 32, 99, 104, 97, 114, 32, 48, 120]⟩ : ByteArray) t149 _ A26.out).mono ?_); rintro e w27 ⟨ex_t149, rfl, hb⟩; refine ⟨_, rfl, ?_⟩; have n0_ := Aside0.mk (below_step (by repeat (first | (with_reducible first | exact HB.out | apply below_alloc | apply pw_below_drewN | apply below_drew1) | exact HB.out)) hb); clear HB; have HB := n0_; clear n0_; (try clear hb); (try clear hb2); (try clear hk); (try clear hi); (try simp only [errX_none, errX_some])))
                                  go_ret2
                                  first | exact ⟨ex_t149, by first | rfl | (simp [errX_none, errX_some] <;> rfl) | (simp [*, errX_none, errX_some] <;> rfl), by repeat (first | (with_reducible first | exact HB.out | apply below_alloc | apply pw_below_drewN | apply below_drew1) | exact HB.out)⟩ | exact ⟨ex_t149.1, ex_t149.2, by first | rfl | (simp [errX_none, errX_some] <;> rfl) | (simp [*, errX_none, errX_some] <;> rfl), by repeat (first | (with_reducible first | exact HB.out | apply below_alloc | apply pw_below_drewN | apply below_drew1) | exact HB.out)⟩ | exact ⟨⟨ex_t149, by first | rfl | (simp [errX_none, errX_some] <;> rfl) | (simp [*, errX_none, errX_some] <;> rfl)⟩, by repeat (first | (with_reducible first | exact HB.out | apply below_alloc | apply pw_below_drewN | apply below_drew1) | exact HB.out)⟩ | exact ⟨⟨ex_t149.1, ex_t149.2, by first | rfl | (simp [errX_none, errX_some] <;> rfl) | (simp [*, errX_none, errX_some] <;> rfl)⟩, by repeat (first | (with_reducible first | exact HB.out | apply below_alloc | apply pw_below_drewN | apply below_drew1) | exact HB.out)⟩
                                · rw [if_neg c25] at H
                                  have c25b0 : decide ((bt t145 x44_3) < 32) = false := decide_eq_false c25
                                  clear c25
                                  have H' := Aside0.mk H
                                  clear H
                                  have p24 : 0 ≤ (x44_3 : Int) := of_decide_eq_true (by first | (with_reducible assumption) | assumption)
                                  have q24 : x44_3 < (t145.size : Int) := of_decide_eq_true (by first | (with_reducible assumption) | assumption)
                                  have hx24 := bt_at t145 x44_3
                                  replace p24 := eq_true p24
                                  replace q24 := eq_true q24
                                  go_wp2
                                  go_roundg k3
                                  case measure => have := HK1.out; have := HJ10.out; have := HK3.out; omega
                                  case rel => exact ⟨(wrap64 (x44_3 + 1)), (by first | rfl | (simp; done) | (simp [*]; done)), H', ⟨by have := HK1.out; have := HJ10.out; have := HK3.out; omega⟩, ⟨by repeat (first | (with_reducible first | exact HB.out | apply below_alloc | apply pw_below_drewN | apply below_drew1) | exact HB.out)⟩⟩
                              · rw [if_neg c23] at H
                                exact absurd H (by simp)
                            · rw [if_neg c22] at H
                              exact absurd H (by simp)
                          · rw [if_neg c21] at H
                            have c21b0 : decide (x44_3 < (t145.size : Int)) = false := decide_eq_false c21
                            clear c21
                            replace H := Option.bind_eq_some_iff.mp H
                            obtain ⟨t150, A280, H⟩ := H
                            replace H : (if (t150.size : Int) = 0 then (fastjson_validateObject.j3 k3 t150 true) else (if 0 < (t150.size : Int) then (fastjson_validateObject.j3 k3 t150 ((bt t150 0) != 58)) else (none))) = some (r1, r2) := H
                            have A28 := Aside0.mk A280
                            clear A280
                            have HC29 := Aside0.mk H
                            clear H
                            go_upto_region 21 with (first | ((with_reducible refine gate_callee (f := 90) rfl ?_); refine goesL_ (some 55) rfl rfl Tryd.func90 (by kernel_rfl) rfl #[.string t146] rfl (by (try simp only [List.map_toArray, List.map_cons, List.map_nil]); first | done | rfl | (simp only [List.length_drop, List.length_take]; rfl)) ?_; (with_reducible refine (fastjson_skipWS.calls k3 t146 t150 _ A28.out).mono ?_); rintro e w' ⟨rfl, ⟨nd, rfl⟩⟩; refine ⟨_, rfl, ?_⟩))
                            (try simp only [Act.put, List.setIfInBounds_toArray, List.set_cons_zero, List.set_cons_succ])
                            go_cut [63] (fun v63 wc => ∃ (kq : Nat) (x63_28 : Bool), v63 = .bool x63_28 ∧ Aside0 (fastjson_validateObject.j3 kq t150 x63_28 = some (r1, r2)) ∧ Aside0 (kq ≤ k3) ∧ Aside0 (Below w.heap.size w wc))
                            case first =>
                              have H := HC29.out
                              clear HC29
                              by_cases c30 : (t150.size : Int) = 0
                              · rw [if_pos c30] at H
                                have c30b0 : ((t150.size : Int) == 0) = true := beq_iff_eq.mpr c30
                                have c30b1 : ((t150.size : Int) != 0) = false := bne_eq_false_iff_eq.mpr c30
                                clear c30
                                (first | rw [c30b0] | (simp only [i64_w, i32_w]; rw [c30b0]) | skip)
                                have H' := Aside0.mk H
                                clear H
                                go_wp2
                                (first | go_meet | (rw [← c3b0]; go_meet) | (rw [← c8b0]; go_meet) | (rw [← c30b0]; go_meet))
                                case rel => exact ⟨_, (true), (by first | rfl | (simp; done) | (simp [*]; done)), H', ⟨by have := HK1.out; have := HJ10.out; have := HK3.out; first | omega | exact Nat.le_refl _⟩, ⟨by repeat (first | (with_reducible first | exact HB.out | apply below_alloc | apply pw_below_drewN | apply below_drew1) | exact HB.out)⟩⟩
                              · rw [if_neg c30] at H
                                have c30b0 : ((t150.size : Int) == 0) = false := beq_eq_false_iff_ne.mpr c30
                                have c30b1 : ((t150.size : Int) != 0) = true := bne_iff_ne.mpr c30
                                (first | rw [c30b0] | (simp only [i64_w, i32_w]; rw [c30b0]) | skip)
                                by_cases c31 : 0 < (t150.size : Int)
                                · rw [if_pos c31] at H
                                  have c31b0 : decide (0 < (t150.size : Int)) = true := decide_eq_true c31
                                  have c31b1 : decide (0 < t150.size) = true := decide_eq_true (by omega)
                                  clear c31
                                  have H' := Aside0.mk H
                                  clear H
                                  have p32 : 0 ≤ (0 : Int) := (by omega)
                                  have q32 : 0 < t150.size := (by have : (0 : Int) < (t150.size : Int) := of_decide_eq_true (by first | (with_reducible assumption) | assumption); omega)
                                  have hx32 : ∀ h : 0 < t150.size, ((t150[0]'h).toNat : Int) = bt t150 0 := bt_at t150 0
                                  clear p32
                                  have qi32 : (0 < (t150.size : Int)) = True := eq_true (of_decide_eq_true (by first | (with_reducible assumption) | assumption))
                                  replace q32 := eq_true q32
                                  go_wp2
                                  (first | go_meet | (rw [← c3b0]; go_meet) | (rw [← c8b0]; go_meet) | (rw [← c30b0]; go_meet))
                                  case rel => exact ⟨_, (((bt t150 0) != 58)), (by first | rfl | (simp; done) | (simp [*]; done)), H', ⟨by have := HK1.out; have := HJ10.out; have := HK3.out; first | omega | exact Nat.le_refl _⟩, ⟨by repeat (first | (with_reducible first | exact HB.out | apply below_alloc | apply pw_below_drewN | apply below_drew1) | exact HB.out)⟩⟩
                                · rw [if_neg c31] at H
                                  exact absurd H (by simp)
                            case rest =>
                              clear HC29
                              try clear c1
                              try clear p1
                              try clear q1
                              try clear hx1
                              try clear qi1
                              try clear c2
                              try clear p2
                              try clear q2
                              try clear hx2
                              try clear c3
                              try clear c3b0
                              try clear c3b1
                              try clear p3
                              try clear q3
                              try clear hx3
                              try clear qi3
                              try clear c6
                              try clear c6b0
                              try clear c6b1
                              try clear p6
                              try clear p7
                              try clear q7
                              try clear hx7
                              try clear qi7
                              try clear c8
                              try clear c8b0
                              try clear c8b1
                              try clear c9
                              try clear c9b0
                              try clear c9b1
                              try clear c12
                              try clear c12b0
                              try clear c12b1
                              try clear c13
                              try clear c13b0
                              try clear c13b1
                              try clear p14
                              try clear q14
                              try clear hx14
                              try clear qi14
                              try clear c15
                              try clear c18
                              try clear c18b0
                              try clear c18b1
                              try clear c21
                              try clear c21b0
                              try clear c22
                              try clear c22b0
                              try clear c23
                              try clear c23b0
                              try clear p24
                              try clear q24
                              try clear hx24
                              try clear c25
                              try clear c25b0
                              try clear c30
                              try clear c30b0
                              try clear c30b1
                              try clear c31
                              try clear c31b0
                              try clear c31b1
                              try clear p32
                              try clear q32
                              try clear hx32
                              try clear qi32
                              try clear p1
                              try clear p14
                              try clear p2
                              try clear p24
                              try clear p32
                              try clear p7
                              try clear q1
                              try clear q14
                              try clear q148
                              try clear q24
                              try clear q32
                              try clear q7
                              obtain ⟨kq, x63_28, rfl, HA, HJ28, HB⟩ := hcut
                              cases kq with
                              | zero => exact absurd HA.out (by simp [fastjson_validateObject.j3])
                              | succ kj28 =>
                                have H := HA.out
                                clear HA
                                simp only [fastjson_validateObject.j3] at H
                                by_cases c33 : x63_28 = true
                                · subst c33
                                  have H1 : ((errors_New.f (⟨#[109, 105, 115, 115, 105, 110, 103, 32, 39, 58, 39, 32, 97, 102, 116, 101, 114, 32, 111, 98, 106, 101, 99, 116, 32, 107, 101, 121]⟩ : ByteArray)).bind fun t151 => (some (t150, t151))) = some (r1, r2) := by rw [if_pos rfl] at H; exact H
                                  clear H
                                  have H := H1
                                  clear H1
                                  replace H := Option.bind_eq_some_iff.mp H
                                  obtain ⟨t151, A340, H⟩ := H
                                  replace H : (some (t150, t151)) = some (r1, r2) := H
                                  have A34 := Aside0.mk A340
                                  clear A340
                                  simp only [Option.some.injEq, Prod.mk.injEq] at H
                                  obtain ⟨rfl, rfl⟩ := H
                                  go_wp2_with (first | ((with_reducible refine gate_callee (f := 84) rfl ?_); refine goesL_ (some 65) rfl rfl Tryd.func84 (by kernel_rfl) rfl #[.string (⟨#[109, 105, 115, 115, 105, 110, 103, 32, 39, 58, 39, 32, 97, 102, 116, 101, 114, 32, 111, 98, 106, 101, 99, 116, 32, 107, 101, 121]⟩ : ByteArray)] rfl (by (try simp only [List.map_toArray, List.map_cons, List.map_nil]); first | done | rfl | (simp only [List.length_drop, List.length_take]; rfl)) ?_; (with_reducible refine (errors_New.calls (⟨#[109, 105, 115, 115, 105, 110, 103, 32, 39, 58, 39, 32, 97, 102, 116, 101, 114, 32, 111, 98, 106, 101, 99, 116, 32, 107, 101, 121]⟩ : ByteArray) t151 _ A34.out).mono ?_); rintro e w35 ⟨ex_t151, rfl, hb⟩; refine ⟨_, rfl, ?_⟩; have n0_ := Aside0.mk (below_step (by repeat (first | (with_reducible first | exact HB.out | apply below_alloc | apply pw_below_drewN | apply below_drew1) | exact HB.out)) hb); clear HB; have HB := n0_; clear n0_; (try clear hb); (try clear hb2); (try clear hk); (try clear hi); (try simp only [errX_none, errX_some])))
                                  go_ret2
                                  first | exact ⟨ex_t151, by first | rfl | (simp [errX_none, errX_some] <;> rfl) | (simp [*, errX_none, errX_some] <;> rfl), by repeat (first | (with_reducible first | exact HB.out | apply below_alloc | apply pw_below_drewN | apply below_drew1) | exact HB.out)⟩ | exact ⟨ex_t151.1, ex_t151.2, by first | rfl | (simp [errX_none, errX_some] <;> rfl) | (simp [*, errX_none, errX_some] <;> rfl), by repeat (first | (with_reducible first | exact HB.out | apply below_alloc | apply pw_below_drewN | apply below_drew1) | exact HB.out)⟩ | exact ⟨⟨ex_t151, by first | rfl | (simp [errX_none, errX_some] <;> rfl) | (simp [*, errX_none, errX_some] <;> rfl)⟩, by repeat (first | (with_reducible first | exact HB.out | apply below_alloc | apply pw_below_drewN | apply below_drew1) | exact HB.out)⟩ | exact ⟨⟨ex_t151.1, ex_t151.2, by first | rfl | (simp [errX_none, errX_some] <;> rfl) | (simp [*, errX_none, errX_some] <;> rfl)⟩, by repeat (first | (with_reducible first | exact HB.out | apply below_alloc | apply pw_below_drewN | apply below_drew1) | exact HB.out)⟩
                                · replace c33 := Bool.eq_false_iff.mpr c33
                                  subst c33
                                  have H1 : (if 1 ≤ (t150.size : Int) then ((fastjson_skipWS.f kj28 (t150.extract 1 t150.size)).bind fun t152 => ((fastjson_validateValue.f kj28 t152).bind fun bt153 => (if bt153.2.isNone = true then ((fastjson_skipWS.f kj28 bt153.1).bind fun t156 => (if (t156.size : Int) = 0 then ((errors_New.f (⟨#[117, 110, 101, 120, 112, 101, 99, 116, 101, 100, 32, 101, 110, 100, 32, 111, 102, 32, 111, 98, 106, 101, 99, 116]⟩ : ByteArray)).bind fun t157 => (some (t156, t157))) else (if 0 < (t156.size : Int) then (if (bt t156 0) = 44 then (if 1 ≤ (t156.size : Int) then (fastjson_validateObject.l0 kj28 (t156.extract 1 t156.size)) else (none)) else (if (bt t156 0) = 125 then (if 1 ≤ (t156.size : Int) then (some (t156.extract 1 t156.size, none)) else (none)) else ((errors_New.f (⟨#[109, 105, 115, 115, 105, 110, 103, 32, 39, 44, 39, 32, 97, 102, 116, 101, 114, 32, 111, 98, 106, 101, 99, 116, 32, 118, 97, 108, 117, 101]⟩ : ByteArray)).bind fun t158 => (some (t156, t158))))) else (none)))) else ((errors_New.f (⟨#[99, 97, 110, 110, 111, 116, 32, 112, 97, 114, 115, 101, 32, 111, 98, 106, 101, 99, 116, 32, 118, 97, 108, 117, 101]⟩ : ByteArray)).bind fun t159 => (some (bt153.1, t159)))))) else (none)) = some (r1, r2) := by rw [if_neg (show ¬ (false = true) by decide)] at H; exact H
                                  clear H
                                  have H := H1
                                  clear H1
                                  by_cases c36 : 1 ≤ (t150.size : Int)
                                  · rw [if_pos c36] at H
                                    have c36b0 := eq_true c36
                                    have c36b1 : decide (1 ≤ (t150.size : Int)) = true := decide_eq_true c36
                                    clear c36
                                    replace H := Option.bind_eq_some_iff.mp H
                                    obtain ⟨t152, A370, H⟩ := H
                                    replace H : ((fastjson_validateValue.f kj28 t152).bind fun bt153 => (if bt153.2.isNone = true then ((fastjson_skipWS.f kj28 bt153.1).bind fun t156 => (if (t156.size : Int) = 0 then ((errors_New.f (⟨#[117, 110, 101, 120, 112, 101, 99, 116, 101, 100, 32, 101, 110, 100, 32, 111, 102, 32, 111, 98, 106, 101, 99, 116]⟩ : ByteArray)).bind fun t157 => (some (t156, t157))) else (if 0 < (t156.size : Int) then (if (bt t156 0) = 44 then (if 1 ≤ (t156.size : Int) then (fastjson_validateObject.l0 kj28 (t156.extract 1 t156.size)) else (none)) else (if (bt t156 0) = 125 then (if 1 ≤ (t156.size : Int) then (some (t156.extract 1 t156.size, none)) else (none)) else ((errors_New.f (⟨#[109, 105, 115, 115, 105, 110, 103, 32, 39, 44, 39, 32, 97, 102, 116, 101, 114, 32, 111, 98, 106, 101, 99, 116, 32, 118, 97, 108, 117, 101]⟩ : ByteArray)).bind fun t158 => (some (t156, t158))))) else (none)))) else ((errors_New.f (⟨#[99, 97, 110, 110, 111, 116, 32, 112, 97, 114, 115, 101, 32, 111, 98, 106, 101, 99, 116, 32, 118, 97, 108, 117, 101]⟩ : ByteArray)).bind fun t159 => (some (bt153.1, t159))))) = some (r1, r2) := H
                                    have A37 := Aside0.mk A370
                                    clear A370
                                    replace H := Option.bind_eq_some_iff.mp H
                                    obtain ⟨⟨t153, t154⟩, A380, H⟩ := H
                                    replace H : (if t154.isNone = true then ((fastjson_skipWS.f kj28 t153).bind fun t156 => (if (t156.size : Int) = 0 then ((errors_New.f (⟨#[117, 110, 101, 120, 112, 101, 99, 116, 101, 100, 32, 101, 110, 100, 32, 111, 102, 32, 111, 98, 106, 101, 99, 116]⟩ : ByteArray)).bind fun t157 => (some (t156, t157))) else (if 0 < (t156.size : Int) then (if (bt t156 0) = 44 then (if 1 ≤ (t156.size : Int) then (fastjson_validateObject.l0 kj28 (t156.extract 1 t156.size)) else (none)) else (if (bt t156 0) = 125 then (if 1 ≤ (t156.size : Int) then (some (t156.extract 1 t156.size, none)) else (none)) else ((errors_New.f (⟨#[109, 105, 115, 115, 105, 110, 103, 32, 39, 44, 39, 32, 97, 102, 116, 101, 114, 32, 111, 98, 106, 101, 99, 116, 32, 118, 97, 108, 117, 101]⟩ : ByteArray)).bind fun t158 => (some (t156, t158))))) else (none)))) else ((errors_New.f (⟨#[99, 97, 110, 110, 111, 116, 32, 112, 97, 114, 115, 101, 32, 111, 98, 106, 101, 99, 116, 32, 118, 97, 108, 117, 101]⟩ : ByteArray)).bind fun t159 => (some (t153, t159)))) = some (r1, r2) := H
                                    have A38 := Aside0.mk A380
                                    clear A380
                                    rcases t154 with _ | q155
                                    · have H1 : ((fastjson_skipWS.f kj28 t153).bind fun t156 => (if (t156.size : Int) = 0 then ((errors_New.f (⟨#[117, 110, 101, 120, 112, 101, 99, 116, 101, 100, 32, 101, 110, 100, 32, 111, 102, 32, 111, 98, 106, 101, 99, 116]⟩ : ByteArray)).bind fun t157 => (some (t156, t157))) else (if 0 < (t156.size : Int) then (if (bt t156 0) = 44 then (if 1 ≤ (t156.size : Int) then (fastjson_validateObject.l0 kj28 (t156.extract 1 t156.size)) else (none)) else (if (bt t156 0) = 125 then (if 1 ≤ (t156.size : Int) then (some (t156.extract 1 t156.size, none)) else (none)) else ((errors_New.f (⟨#[109, 105, 115, 115, 105, 110, 103, 32, 39, 44, 39, 32, 97, 102, 116, 101, 114, 32, 111, 98, 106, 101, 99, 116, 32, 118, 97, 108, 117, 101]⟩ : ByteArray)).bind fun t158 => (some (t156, t158))))) else (none)))) = some (r1, r2) := by rw [if_pos (show (none : Option Int).isNone = true by rfl)] at H; exact H
                                      clear H
                                      have H := H1
                                      clear H1
                                      try simp only [errX_none, errX_some]
                                      replace H := Option.bind_eq_some_iff.mp H
                                      obtain ⟨t156, A390, H⟩ := H
                                      replace H : (if (t156.size : Int) = 0 then ((errors_New.f (⟨#[117, 110, 101, 120, 112, 101, 99, 116, 101, 100, 32, 101, 110, 100, 32, 111, 102, 32, 111, 98, 106, 101, 99, 116]⟩ : ByteArray)).bind fun t157 => (some (t156, t157))) else (if 0 < (t156.size : Int) then (if (bt t156 0) = 44 then (if 1 ≤ (t156.size : Int) then (fastjson_validateObject.l0 kj28 (t156.extract 1 t156.size)) else (none)) else (if (bt t156 0) = 125 then (if 1 ≤ (t156.size : Int) then (some (t156.extract 1 t156.size, none)) else (none)) else ((errors_New.f (⟨#[109, 105, 115, 115, 105, 110, 103, 32, 39, 44, 39, 32, 97, 102, 116, 101, 114, 32, 111, 98, 106, 101, 99, 116, 32, 118, 97, 108, 117, 101]⟩ : ByteArray)).bind fun t158 => (some (t156, t158))))) else (none))) = some (r1, r2) := H
                                      have A39 := Aside0.mk A390
                                      clear A390
                                      by_cases c40 : (t156.size : Int) = 0
                                      · rw [if_pos c40] at H
                                        have c40b0 : ((t156.size : Int) == 0) = true := beq_iff_eq.mpr c40
                                        have c40b1 : ((t156.size : Int) != 0) = false := bne_eq_false_iff_eq.mpr c40
                                        clear c40
                                        replace H := Option.bind_eq_some_iff.mp H
                                        obtain ⟨t157, A410, H⟩ := H
                                        replace H : (some (t156, t157)) = some (r1, r2) := H
                                        have A41 := Aside0.mk A410
                                        clear A410
                                        simp only [Option.some.injEq, Prod.mk.injEq] at H
                                        obtain ⟨rfl, rfl⟩ := H
                                        go_wp2_with (first | ((with_reducible refine gate_callee (f := 90) rfl ?_); refine goesL_ (some 69) rfl rfl Tryd.func90 (by kernel_rfl) rfl #[.string (t150.extract 1 t150.size)] rfl (by (try simp only [List.map_toArray, List.map_cons, List.map_nil]); first | done | rfl | (simp only [List.length_drop, List.length_take]; rfl)) ?_; (with_reducible refine (fastjson_skipWS.calls kj28 (t150.extract 1 t150.size) t152 _ A37.out).mono ?_); rintro e w' ⟨rfl, ⟨nd, rfl⟩⟩; refine ⟨_, rfl, ?_⟩) | ((with_reducible refine gate_callee (f := 92) rfl ?_); refine goesL_ (some 72) rfl rfl Tryd.func92 (by kernel_rfl) rfl #[.string t152] rfl (by (try simp only [List.map_toArray, List.map_cons, List.map_nil]); first | done | rfl | (simp only [List.length_drop, List.length_take]; rfl)) ?_; (with_reducible refine ((IHG.out kj28 (by have := HK1.out; have := HJ10.out; have := HK3.out; have := HJ28.out; omega)).2.2  t152 t153 none _ ?side1 A38.out).mono ?_); (case side1 => exact Laid.below HLD.out (by repeat (first | (with_reducible first | exact HB.out | apply below_alloc | apply pw_below_drewN | apply below_drew1) | exact HB.out))); rintro e w42 ⟨_, rfl, hb⟩; refine ⟨_, rfl, ?_⟩; have n0_ := Aside0.mk (below_step (by repeat (first | (with_reducible first | exact HB.out | apply below_alloc | apply pw_below_drewN | apply below_drew1) | exact HB.out)) hb); clear HB; have HB := n0_; clear n0_; (try clear hb); (try clear hb2); (try clear hk); (try clear hi); (try simp only [errX_none, errX_some])) | ((with_reducible refine gate_callee (f := 90) rfl ?_); refine goesL_ (some 80) rfl rfl Tryd.func90 (by kernel_rfl) rfl #[.string t153] rfl (by (try simp only [List.map_toArray, List.map_cons, List.map_nil]); first | done | rfl | (simp only [List.length_drop, List.length_take]; rfl)) ?_; (with_reducible refine (fastjson_skipWS.calls kj28 t153 t156 _ A39.out).mono ?_); rintro e w' ⟨rfl, ⟨nd, rfl⟩⟩; refine ⟨_, rfl, ?_⟩) | ((with_reducible refine gate_callee (f := 84) rfl ?_); refine goesL_ (some 85) rfl rfl Tryd.func84 (by kernel_rfl) rfl #[.string (⟨#[117, 110, 101, 120, 112, 101, 99, 116, 101, 100, 32, 101, 110, 100, 32, 111, 102, 32, 111, 98, 106, 101, 99, 116]⟩ : ByteArray)] rfl (by (try simp only [List.map_toArray, List.map_cons, List.map_nil]); first | done | rfl | (simp only [List.length_drop, List.length_take]; rfl)) ?_; (with_reducible refine (errors_New.calls (⟨#[117, 110, 101, 120, 112, 101, 99, 116, 101, 100, 32, 101, 110, 100, 32, 111, 102, 32, 111, 98, 106, 101, 99, 116]⟩ : ByteArray) t157 _ A41.out).mono ?_); rintro e w43 ⟨ex_t157, rfl, hb⟩; refine ⟨_, rfl, ?_⟩; have n0_ := Aside0.mk (below_step (by repeat (first | (with_reducible first | exact HB.out | apply below_alloc | apply pw_below_drewN | apply below_drew1) | exact HB.out)) hb); clear HB; have HB := n0_; clear n0_; (try clear hb); (try clear hb2); (try clear hk); (try clear hi); (try simp only [errX_none, errX_some])))
                                        go_ret2
                                        first | exact ⟨ex_t157, by first | rfl | (simp [errX_none, errX_some] <;> rfl) | (simp [*, errX_none, errX_some] <;> rfl), by repeat (first | (with_reducible first | exact HB.out | apply below_alloc | apply pw_below_drewN | apply below_drew1) | exact HB.out)⟩ | exact ⟨ex_t157.1, ex_t157.2, by first | rfl | (simp [errX_none, errX_some] <;> rfl) | (simp [*, errX_none, errX_some] <;> rfl), by repeat (first | (with_reducible first | exact HB.out | apply below_alloc | apply pw_below_drewN | apply below_drew1) | exact HB.out)⟩ | exact ⟨⟨ex_t157, by first | rfl | (simp [errX_none, errX_some] <;> rfl) | (simp [*, errX_none, errX_some] <;> rfl)⟩, by repeat (first | (with_reducible first | exact HB.out | apply below_alloc | apply pw_below_drewN | apply below_drew1) | exact HB.out)⟩ | exact ⟨⟨ex_t157.1, ex_t157.2, by first | rfl | (simp [errX_none, errX_some] <;> rfl) | (simp [*, errX_none, errX_some] <;> rfl)⟩, by repeat (first | (with_reducible first | exact HB.out | apply below_alloc | apply pw_below_drewN | apply below_drew1) | exact HB.out)⟩
                                      · rw [if_neg c40] at H
                                        have c40b0 : ((t156.size : Int) == 0) = false := beq_eq_false_iff_ne.mpr c40
                                        have c40b1 : ((t156.size : Int) != 0) = true := bne_iff_ne.mpr c40
                                        by_cases c44 : 0 < (t156.size : Int)
                                        · rw [if_pos c44] at H
                                          have c44b0 : decide (0 < (t156.size : Int)) = true := decide_eq_true c44
                                          have c44b1 : decide (0 < t156.size) = true := decide_eq_true (by omega)
                                          clear c44
                                          by_cases c46 : (bt t156 0) = 44
                                          · rw [if_pos c46] at H
                                            have c46b0 : ((bt t156 0) == 44) = true := beq_iff_eq.mpr c46
                                            have c46b1 : ((bt t156 0) != 44) = false := bne_eq_false_iff_eq.mpr c46
                                            clear c46
                                            by_cases c47 : 1 ≤ (t156.size : Int)
                                            · rw [if_pos c47] at H
                                              have c47b0 := eq_true c47
                                              have c47b1 : decide (1 ≤ (t156.size : Int)) = true := decide_eq_true c47
                                              clear c47
                                              have H' := Aside0.mk H
                                              clear H
                                              go_wp2_with (first | ((with_reducible refine gate_callee (f := 90) rfl ?_); refine goesL_ (some 69) rfl rfl Tryd.func90 (by kernel_rfl) rfl #[.string (t150.extract 1 t150.size)] rfl (by (try simp only [List.map_toArray, List.map_cons, List.map_nil]); first | done | rfl | (simp only [List.length_drop, List.length_take]; rfl)) ?_; (with_reducible refine (fastjson_skipWS.calls kj28 (t150.extract 1 t150.size) t152 _ A37.out).mono ?_); rintro e w' ⟨rfl, ⟨nd, rfl⟩⟩; refine ⟨_, rfl, ?_⟩) | ((with_reducible refine gate_callee (f := 92) rfl ?_); refine goesL_ (some 72) rfl rfl Tryd.func92 (by kernel_rfl) rfl #[.string t152] rfl (by (try simp only [List.map_toArray, List.map_cons, List.map_nil]); first | done | rfl | (simp only [List.length_drop, List.length_take]; rfl)) ?_; (with_reducible refine ((IHG.out kj28 (by have := HK1.out; have := HJ10.out; have := HK3.out; have := HJ28.out; omega)).2.2  t152 t153 none _ ?side1 A38.out).mono ?_); (case side1 => exact Laid.below HLD.out (by repeat (first | (with_reducible first | exact HB.out | apply below_alloc | apply pw_below_drewN | apply below_drew1) | exact HB.out))); rintro e w48 ⟨_, rfl, hb⟩; refine ⟨_, rfl, ?_⟩; have n0_ := Aside0.mk (below_step (by repeat (first | (with_reducible first | exact HB.out | apply below_alloc | apply pw_below_drewN | apply below_drew1) | exact HB.out)) hb); clear HB; have HB := n0_; clear n0_; (try clear hb); (try clear hb2); (try clear hk); (try clear hi); (try simp only [errX_none, errX_some])) | ((with_reducible refine gate_callee (f := 90) rfl ?_); refine goesL_ (some 80) rfl rfl Tryd.func90 (by kernel_rfl) rfl #[.string t153] rfl (by (try simp only [List.map_toArray, List.map_cons, List.map_nil]); first | done | rfl | (simp only [List.length_drop, List.length_take]; rfl)) ?_; (with_reducible refine (fastjson_skipWS.calls kj28 t153 t156 _ A39.out).mono ?_); rintro e w' ⟨rfl, ⟨nd, rfl⟩⟩; refine ⟨_, rfl, ?_⟩; have p45 : 0 ≤ (0 : Int) := (by omega); have q45 : 0 < t156.size := (by have : (0 : Int) < (t156.size : Int) := of_decide_eq_true (by first | (with_reducible assumption) | assumption); omega); have hx45 : ∀ h : 0 < t156.size, ((t156[0]'h).toNat : Int) = bt t156 0 := bt_at t156 0; clear p45; have qi45 : (0 < (t156.size : Int)) = True := eq_true (of_decide_eq_true (by first | (with_reducible assumption) | assumption)); replace q45 := eq_true q45))
                                              go_roundg kj28
                                              case measure => have := HK1.out; have := HJ10.out; have := HK3.out; have := HJ28.out; omega
                                              case rel => exact ⟨(t156.extract 1 t156.size), (by first | rfl | (simp; done) | (simp [*]; done)), H', ⟨by have := HK1.out; have := HJ10.out; have := HK3.out; have := HJ28.out; omega⟩, ⟨by repeat (first | (with_reducible first | exact HB.out | apply below_alloc | apply pw_below_drewN | apply below_drew1) | exact HB.out)⟩⟩
                                            · rw [if_neg c47] at H
                                              exact absurd H (by simp)
                                          · rw [if_neg c46] at H
                                            have c46b0 : ((bt t156 0) == 44) = false := beq_eq_false_iff_ne.mpr c46
                                            have c46b1 : ((bt t156 0) != 44) = true := bne_iff_ne.mpr c46
                                            by_cases c50 : (bt t156 0) = 125
                                            · rw [if_pos c50] at H
                                              have c50b0 : ((bt t156 0) == 125) = true := beq_iff_eq.mpr c50
                                              have c50b1 : ((bt t156 0) != 125) = false := bne_eq_false_iff_eq.mpr c50
                                              clear c50
                                              by_cases c51 : 1 ≤ (t156.size : Int)
                                              · rw [if_pos c51] at H
                                                have c51b0 := eq_true c51
                                                have c51b1 : decide (1 ≤ (t156.size : Int)) = true := decide_eq_true c51
                                                clear c51
                                                simp only [Option.some.injEq, Prod.mk.injEq] at H
                                                obtain ⟨rfl, rfl⟩ := H
                                                go_wp2_with (first | ((with_reducible refine gate_callee (f := 90) rfl ?_); refine goesL_ (some 69) rfl rfl Tryd.func90 (by kernel_rfl) rfl #[.string (t150.extract 1 t150.size)] rfl (by (try simp only [List.map_toArray, List.map_cons, List.map_nil]); first | done | rfl | (simp only [List.length_drop, List.length_take]; rfl)) ?_; (with_reducible refine (fastjson_skipWS.calls kj28 (t150.extract 1 t150.size) t152 _ A37.out).mono ?_); rintro e w' ⟨rfl, ⟨nd, rfl⟩⟩; refine ⟨_, rfl, ?_⟩) | ((with_reducible refine gate_callee (f := 92) rfl ?_); refine goesL_ (some 72) rfl rfl Tryd.func92 (by kernel_rfl) rfl #[.string t152] rfl (by (try simp only [List.map_toArray, List.map_cons, List.map_nil]); first | done | rfl | (simp only [List.length_drop, List.length_take]; rfl)) ?_; (with_reducible refine ((IHG.out kj28 (by have := HK1.out; have := HJ10.out; have := HK3.out; have := HJ28.out; omega)).2.2  t152 t153 none _ ?side1 A38.out).mono ?_); (case side1 => exact Laid.below HLD.out (by repeat (first | (with_reducible first | exact HB.out | apply below_alloc | apply pw_below_drewN | apply below_drew1) | exact HB.out))); rintro e w52 ⟨_, rfl, hb⟩; refine ⟨_, rfl, ?_⟩; have n0_ := Aside0.mk (below_step (by repeat (first | (with_reducible first | exact HB.out | apply below_alloc | apply pw_below_drewN | apply below_drew1) | exact HB.out)) hb); clear HB; have HB := n0_; clear n0_; (try clear hb); (try clear hb2); (try clear hk); (try clear hi); (try simp only [errX_none, errX_some])) | ((with_reducible refine gate_callee (f := 90) rfl ?_); refine goesL_ (some 80) rfl rfl Tryd.func90 (by kernel_rfl) rfl #[.string t153] rfl (by (try simp only [List.map_toArray, List.map_cons, List.map_nil]); first | done | rfl | (simp only [List.length_drop, List.length_take]; rfl)) ?_; (with_reducible refine (fastjson_skipWS.calls kj28 t153 t156 _ A39.out).mono ?_); rintro e w' ⟨rfl, ⟨nd, rfl⟩⟩; refine ⟨_, rfl, ?_⟩; have p45 : 0 ≤ (0 : Int) := (by omega); have q45 : 0 < t156.size := (by have : (0 : Int) < (t156.size : Int) := of_decide_eq_true (by first | (with_reducible assumption) | assumption); omega); have hx45 : ∀ h : 0 < t156.size, ((t156[0]'h).toNat : Int) = bt t156 0 := bt_at t156 0; clear p45; have qi45 : (0 < (t156.size : Int)) = True := eq_true (of_decide_eq_true (by first | (with_reducible assumption) | assumption)); replace q45 := eq_true q45; have p49 : 0 ≤ (0 : Int) := (by omega); have q49 : 0 < t156.size := (by have : (0 : Int) < (t156.size : Int) := of_decide_eq_true (by first | (with_reducible assumption) | assumption); omega); have hx49 : ∀ h : 0 < t156.size, ((t156[0]'h).toNat : Int) = bt t156 0 := bt_at t156 0; clear p49; have qi49 : (0 < (t156.size : Int)) = True := eq_true (of_decide_eq_true (by first | (with_reducible assumption) | assumption)); replace q49 := eq_true q49))
                                                go_ret2
                                                first | exact ⟨noX, by first | rfl | (simp [errX_none, errX_some] <;> rfl) | (simp [*, errX_none, errX_some] <;> rfl), by repeat (first | (with_reducible first | exact HB.out | apply below_alloc | apply pw_below_drewN | apply below_drew1) | exact HB.out)⟩ | exact ⟨noX.1, noX.2, by first | rfl | (simp [errX_none, errX_some] <;> rfl) | (simp [*, errX_none, errX_some] <;> rfl), by repeat (first | (with_reducible first | exact HB.out | apply below_alloc | apply pw_below_drewN | apply below_drew1) | exact HB.out)⟩ | exact ⟨⟨noX, by first | rfl | (simp [errX_none, errX_some] <;> rfl) | (simp [*, errX_none, errX_some] <;> rfl)⟩, by repeat (first | (with_reducible first | exact HB.out | apply below_alloc | apply pw_below_drewN | apply below_drew1) | exact HB.out)⟩ | exact ⟨⟨noX.1, noX.2, by first | rfl | (simp [errX_none, errX_some] <;> rfl) | (simp [*, errX_none, errX_some] <;> rfl)⟩, by repeat (first | (with_reducible first | exact HB.out | apply below_alloc | apply pw_below_drewN | apply below_drew1) | exact HB.out)⟩
                                              · rw [if_neg c51] at H
                                                exact absurd H (by simp)
                                            · rw [if_neg c50] at H
                                              have c50b0 : ((bt t156 0) == 125) = false := beq_eq_false_iff_ne.mpr c50
                                              have c50b1 : ((bt t156 0) != 125) = true := bne_iff_ne.mpr c50
                                              replace H := Option.bind_eq_some_iff.mp H
                                              obtain ⟨t158, A530, H⟩ := H
                                              replace H : (some (t156, t158)) = some (r1, r2) := H
                                              have A53 := Aside0.mk A530
                                              clear A530
                                              simp only [Option.some.injEq, Prod.mk.injEq] at H
                                              obtain ⟨rfl, rfl⟩ := H
                                              go_wp2_with (first | ((with_reducible refine gate_callee (f := 90) rfl ?_); refine goesL_ (some 69) rfl rfl Tryd.func90 (by kernel_rfl) rfl #[.string (t150.extract 1 t150.size)] rfl (by (try simp only [List.map_toArray, List.map_cons, List.map_nil]); first | done | rfl | (simp only [List.length_drop, List.length_take]; rfl)) ?_; (with_reducible refine (fastjson_skipWS.calls kj28 (t150.extract 1 t150.size) t152 _ A37.out).mono ?_); rintro e w' ⟨rfl, ⟨nd, rfl⟩⟩; refine ⟨_, rfl, ?_⟩) | ((with_reducible refine gate_callee (f := 92) rfl ?_); refine goesL_ (some 72) rfl rfl Tryd.func92 (by kernel_rfl) rfl #[.string t152] rfl (by (try simp only [List.map_toArray, List.map_cons, List.map_nil]); first | done | rfl | (simp only [List.length_drop, List.length_take]; rfl)) ?_; (with_reducible refine ((IHG.out kj28 (by have := HK1.out; have := HJ10.out; have := HK3.out; have := HJ28.out; omega)).2.2  t152 t153 none _ ?side1 A38.out).mono ?_); (case side1 => exact Laid.below HLD.out (by repeat (first | (with_reducible first | exact HB.out | apply below_alloc | apply pw_below_drewN | apply below_drew1) | exact HB.out))); rintro e w54 ⟨_, rfl, hb⟩; refine ⟨_, rfl, ?_⟩; have n0_ := Aside0.mk (below_step (by repeat (first | (with_reducible first | exact HB.out | apply below_alloc | apply pw_below_drewN | apply below_drew1) | exact HB.out)) hb); clear HB; have HB := n0_; clear n0_; (try clear hb); (try clear hb2); (try clear hk); (try clear hi); (try simp only [errX_none, errX_some])) | ((with_reducible refine gate_callee (f := 90) rfl ?_); refine goesL_ (some 80) rfl rfl Tryd.func90 (by kernel_rfl) rfl #[.string t153] rfl (by (try simp only [List.map_toArray, List.map_cons, List.map_nil]); first | done | rfl | (simp only [List.length_drop, List.length_take]; rfl)) ?_; (with_reducible refine (fastjson_skipWS.calls kj28 t153 t156 _ A39.out).mono ?_); rintro e w' ⟨rfl, ⟨nd, rfl⟩⟩; refine ⟨_, rfl, ?_⟩; have p45 : 0 ≤ (0 : Int) := (by omega); have q45 : 0 < t156.size := (by have : (0 : Int) < (t156.size : Int) := of_decide_eq_true (by first | (with_reducible assumption) | assumption); omega); have hx45 : ∀ h : 0 < t156.size, ((t156[0]'h).toNat : Int) = bt t156 0 := bt_at t156 0; clear p45; have qi45 : (0 < (t156.size : Int)) = True := eq_true (of_decide_eq_true (by first | (with_reducible assumption) | assumption)); replace q45 := eq_true q45; have p49 : 0 ≤ (0 : Int) := (by omega); have q49 : 0 < t156.size := (by have : (0 : Int) < (t156.size : Int) := of_decide_eq_true (by first | (with_reducible assumption) | assumption); omega); have hx49 : ∀ h : 0 < t156.size, ((t156[0]'h).toNat : Int) = bt t156 0 := bt_at t156 0; clear p49; have qi49 : (0 < (t156.size : Int)) = True := eq_true (of_decide_eq_true (by first | (with_reducible assumption) | assumption)); replace q49 := eq_true q49) | ((with_reducible refine gate_callee (f := 84) rfl ?_); refine goesL_ (some 97) rfl rfl Tryd.func84 (by kernel_rfl) rfl #[.string (⟨#[109, 105, 115, 115, 105, 110, 103, 32, 39, 44, 39, 32, 97, 102, 116, 101, 114, 32, 111, 98, 106, 101, 99, 116, 32, 118, 97, 108, 117, 101]⟩ : ByteArray)] rfl (by (try simp only [List.map_toArray, List.map_cons, List.map_nil]); first | done | rfl | (simp only [List.length_drop, List.length_take]; rfl)) ?_; (with_reducible refine (errors_New.calls (⟨#[109, 105, 115, 115, 105, 110, 103, 32, 39, 44, 39, 32, 97, 102, 116, 101, 114, 32, 111, 98, 106, 101, 99, 116, 32, 118, 97, 108, 117, 101]⟩ : ByteArray) t158 _ A53.out).mono ?_); rintro e w55 ⟨ex_t158, rfl, hb⟩; refine ⟨_, rfl, ?_⟩; have n0_ := Aside0.mk (below_step (by repeat (first | (with_reducible first | exact HB.out | apply below_alloc | apply pw_below_drewN | apply below_drew1) | exact HB.out)) hb); clear HB; have HB := n0_; clear n0_; (try clear hb); (try clear hb2); (try clear hk); (try clear hi); (try simp only [errX_none, errX_some])))
                                              go_ret2
                                              first | exact ⟨ex_t158, by first | rfl | (simp [errX_none, errX_some] <;> rfl) | (simp [*, errX_none, errX_some] <;> rfl), by repeat (first | (with_reducible first | exact HB.out | apply below_alloc | apply pw_below_drewN | apply below_drew1) | exact HB.out)⟩ | exact ⟨ex_t158.1, ex_t158.2, by first | rfl | (simp [errX_none, errX_some] <;> rfl) | (simp [*, errX_none, errX_some] <;> rfl), by repeat (first | (with_reducible first | exact HB.out | apply below_alloc | apply pw_below_drewN | apply below_drew1) | exact HB.out)⟩ | exact ⟨⟨ex_t158, by first | rfl | (simp [errX_none, errX_some] <;> rfl) | (simp [*, errX_none, errX_some] <;> rfl)⟩, by repeat (first | (with_reducible first | exact HB.out | apply below_alloc | apply pw_below_drewN | apply below_drew1) | exact HB.out)⟩ | exact ⟨⟨ex_t158.1, ex_t158.2, by first | rfl | (simp [errX_none, errX_some] <;> rfl) | (simp [*, errX_none, errX_some] <;> rfl)⟩, by repeat (first | (with_reducible first | exact HB.out | apply below_alloc | apply pw_below_drewN | apply below_drew1) | exact HB.out)⟩
                                        · rw [if_neg c44] at H
                                          exact absurd H (by simp)
                                    · have H1 : ((errors_New.f (⟨#[99, 97, 110, 110, 111, 116, 32, 112, 97, 114, 115, 101, 32, 111, 98, 106, 101, 99, 116, 32, 118, 97, 108, 117, 101]⟩ : ByteArray)).bind fun t159 => (some (t153, t159))) = some (r1, r2) := by rw [if_neg (show ¬ (some q155).isNone = true by simp)] at H; exact H
                                      clear H
                                      have H := H1
                                      clear H1
                                      try simp only [errX_none, errX_some]
                                      replace H := Option.bind_eq_some_iff.mp H
                                      obtain ⟨t159, A560, H⟩ := H
                                      replace H : (some (t153, t159)) = some (r1, r2) := H
                                      have A56 := Aside0.mk A560
                                      clear A560
                                      simp only [Option.some.injEq, Prod.mk.injEq] at H
                                      obtain ⟨rfl, rfl⟩ := H
                                      go_wp2_with (first | ((with_reducible refine gate_callee (f := 90) rfl ?_); refine goesL_ (some 69) rfl rfl Tryd.func90 (by kernel_rfl) rfl #[.string (t150.extract 1 t150.size)] rfl (by (try simp only [List.map_toArray, List.map_cons, List.map_nil]); first | done | rfl | (simp only [List.length_drop, List.length_take]; rfl)) ?_; (with_reducible refine (fastjson_skipWS.calls kj28 (t150.extract 1 t150.size) t152 _ A37.out).mono ?_); rintro e w' ⟨rfl, ⟨nd, rfl⟩⟩; refine ⟨_, rfl, ?_⟩) | ((with_reducible refine gate_callee (f := 92) rfl ?_); refine goesL_ (some 72) rfl rfl Tryd.func92 (by kernel_rfl) rfl #[.string t152] rfl (by (try simp only [List.map_toArray, List.map_cons, List.map_nil]); first | done | rfl | (simp only [List.length_drop, List.length_take]; rfl)) ?_; (with_reducible refine ((IHG.out kj28 (by have := HK1.out; have := HJ10.out; have := HK3.out; have := HJ28.out; omega)).2.2  t152 t153 (some q155) _ ?side1 A38.out).mono ?_); (case side1 => exact Laid.below HLD.out (by repeat (first | (with_reducible first | exact HB.out | apply below_alloc | apply pw_below_drewN | apply below_drew1) | exact HB.out))); rintro e w57 ⟨ex_t154, rfl, hb⟩; refine ⟨_, rfl, ?_⟩; have n0_ := Aside0.mk (below_step (by repeat (first | (with_reducible first | exact HB.out | apply below_alloc | apply pw_below_drewN | apply below_drew1) | exact HB.out)) hb); clear HB; have HB := n0_; clear n0_; (try clear hb); (try clear hb2); (try clear hk); (try clear hi); (try simp only [errX_none, errX_some])) | ((with_reducible refine gate_callee (f := 84) rfl ?_); refine goesL_ (some 78) rfl rfl Tryd.func84 (by kernel_rfl) rfl #[.string (⟨#[99, 97, 110, 110, 111, 116, 32, 112, 97, 114, 115, 101, 32, 111, 98, 106, 101, 99, 116, 32, 118, 97, 108, 117, 101]⟩ : ByteArray)] rfl (by (try simp only [List.map_toArray, List.map_cons, List.map_nil]); first | done | rfl | (simp only [List.length_drop, List.length_take]; rfl)) ?_; (with_reducible refine (errors_New.calls (⟨#[99, 97, 110, 110, 111, 116, 32, 112, 97, 114, 115, 101, 32, 111, 98, 106, 101, 99, 116, 32, 118, 97, 108, 117, 101]⟩ : ByteArray) t159 _ A56.out).mono ?_); rintro e w58 ⟨ex_t159, rfl, hb⟩; refine ⟨_, rfl, ?_⟩; have n0_ := Aside0.mk (below_step (by repeat (first | (with_reducible first | exact HB.out | apply below_alloc | apply pw_below_drewN | apply below_drew1) | exact HB.out)) hb); clear HB; have HB := n0_; clear n0_; (try clear hb); (try clear hb2); (try clear hk); (try clear hi); (try simp only [errX_none, errX_some])))
                                      go_ret2
                                      first | exact ⟨ex_t159, by first | rfl | (simp [errX_none, errX_some] <;> rfl) | (simp [*, errX_none, errX_some] <;> rfl), by repeat (first | (with_reducible first | exact HB.out | apply below_alloc | apply pw_below_drewN | apply below_drew1) | exact HB.out)⟩ | exact ⟨ex_t159.1, ex_t159.2, by first | rfl | (simp [errX_none, errX_some] <;> rfl) | (simp [*, errX_none, errX_some] <;> rfl), by repeat (first | (with_reducible first | exact HB.out | apply below_alloc | apply pw_below_drewN | apply below_drew1) | exact HB.out)⟩ | exact ⟨⟨ex_t159, by first | rfl | (simp [errX_none, errX_some] <;> rfl) | (simp [*, errX_none, errX_some] <;> rfl)⟩, by repeat (first | (with_reducible first | exact HB.out | apply below_alloc | apply pw_below_drewN | apply below_drew1) | exact HB.out)⟩ | exact ⟨⟨ex_t159.1, ex_t159.2, by first | rfl | (simp [errX_none, errX_some] <;> rfl) | (simp [*, errX_none, errX_some] <;> rfl)⟩, by repeat (first | (with_reducible first | exact HB.out | apply below_alloc | apply pw_below_drewN | apply below_drew1) | exact HB.out)⟩
                                  · rw [if_neg c36] at H
                                    exact absurd H (by simp)
                    · have H1 : ((errors_New.f (⟨#[99, 97, 110, 110, 111, 116, 32, 112, 97, 114, 115, 101, 32, 111, 98, 106, 101, 99, 116, 32, 107, 101, 121]⟩ : ByteArray)).bind fun t160 => (some (t146, t160))) = some (r1, r2) := by rw [if_neg (show ¬ (some q148).isNone = true by simp)] at H; exact H
                      clear H
                      have H := H1
                      clear H1
                      try simp only [errX_none, errX_some]
                      replace H := Option.bind_eq_some_iff.mp H
                      obtain ⟨t160, A590, H⟩ := H
                      replace H : (some (t146, t160)) = some (r1, r2) := H
                      have A59 := Aside0.mk A590
                      clear A590
                      simp only [Option.some.injEq, Prod.mk.injEq] at H
                      obtain ⟨rfl, rfl⟩ := H
                      go_wp2_with (first | ((with_reducible refine gate_callee (f := 91) rfl ?_); refine goesL_ (some 34) rfl rfl Tryd.func91 (by kernel_rfl) rfl #[.string (t143.extract 1 t143.size)] rfl (by (try simp only [List.map_toArray, List.map_cons, List.map_nil]); first | done | rfl | (simp only [List.length_drop, List.length_take]; rfl)) ?_; (with_reducible refine (fastjson_validateKey.calls kj10 (t143.extract 1 t143.size) t145 t146 (some q148) _ ?side1 A19.out).mono ?_); (case side1 => exact Laid.below HLD.out (by repeat (first | (with_reducible first | exact HB.out | apply below_alloc | apply pw_below_drewN | apply below_drew1) | exact HB.out))); rintro e w60 ⟨ex_t147, rfl, hb⟩; refine ⟨_, rfl, ?_⟩; have n0_ := Aside0.mk (below_step (by repeat (first | (with_reducible first | exact HB.out | apply below_alloc | apply pw_below_drewN | apply below_drew1) | exact HB.out)) hb); clear HB; have HB := n0_; clear n0_; (try clear hb); (try clear hb2); (try clear hk); (try clear hi); (try simp only [errX_none, errX_some])) | ((with_reducible refine gate_callee (f := 84) rfl ?_); refine goesL_ (some 41) rfl rfl Tryd.func84 (by kernel_rfl) rfl #[.string (⟨#[99, 97, 110, 110, 111, 116, 32, 112, 97, 114, 115, 101, 32, 111, 98, 106, 101, 99, 116, 32, 107, 101, 121]⟩ : ByteArray)] rfl (by (try simp only [List.map_toArray, List.map_cons, List.map_nil]); first | done | rfl | (simp only [List.length_drop, List.length_take]; rfl)) ?_; (with_reducible refine (errors_New.calls (⟨#[99, 97, 110, 110, 111, 116, 32, 112, 97, 114, 115, 101, 32, 111, 98, 106, 101, 99, 116, 32, 107, 101, 121]⟩ : ByteArray) t160 _ A59.out).mono ?_); rintro e w61 ⟨ex_t160, rfl, hb⟩; refine ⟨_, rfl, ?_⟩; have n0_ := Aside0.mk (below_step (by repeat (first | (with_reducible first | exact HB.out | apply below_alloc | apply pw_below_drewN | apply below_drew1) | exact HB.out)) hb); clear HB; have HB := n0_; clear n0_; (try clear hb); (try clear hb2); (try clear hk); (try clear hi); (try simp only [errX_none, errX_some])))
                      go_ret2
                      first | exact ⟨ex_t160, by first | rfl | (simp [errX_none, errX_some] <;> rfl) | (simp [*, errX_none, errX_some] <;> rfl), by repeat (first | (with_reducible first | exact HB.out | apply below_alloc | apply pw_below_drewN | apply below_drew1) | exact HB.out)⟩ | exact ⟨ex_t160.1, ex_t160.2, by first | rfl | (simp [errX_none, errX_some] <;> rfl) | (simp [*, errX_none, errX_some] <;> rfl), by repeat (first | (with_reducible first | exact HB.out | apply below_alloc | apply pw_below_drewN | apply below_drew1) | exact HB.out)⟩ | exact ⟨⟨ex_t160, by first | rfl | (simp [errX_none, errX_some] <;> rfl) | (simp [*, errX_none, errX_some] <;> rfl)⟩, by repeat (first | (with_reducible first | exact HB.out | apply below_alloc | apply pw_below_drewN | apply below_drew1) | exact HB.out)⟩ | exact ⟨⟨ex_t160.1, ex_t160.2, by first | rfl | (simp [errX_none, errX_some] <;> rfl) | (simp [*, errX_none, errX_some] <;> rfl)⟩, by repeat (first | (with_reducible first | exact HB.out | apply below_alloc | apply pw_below_drewN | apply below_drew1) | exact HB.out)⟩
                  · rw [if_neg c18] at H
                    exact absurd H (by simp)
    · rw [if_neg c6] at H
      exact absurd H (by simp)

/-! ### fastjson_validateArray: function 110 -/
set_option maxHeartbeats 8000000 in
set_option maxRecDepth 100000 in
theorem fastjson_validateArray.step (k : Nat) (ih0_ : ∀ m, m < k → fastjson_validateObject.At m ∧ fastjson_validateArray.At m ∧ fastjson_validateValue.At m) : fastjson_validateArray.At k := by
  have IHG := Aside0.mk ih0_
  clear ih0_
  intro a0 r1 r2 w hL h
  cases k with
  | zero => exact absurd h (by simp [fastjson_validateArray.f])
  | succ k =>
  simp only [fastjson_validateArray.f] at h
  have hu67 := Tryd.underlying67
  have HB := Aside0.mk (Below.refl w.heap.size w)
  have HLD := Aside0.mk hL
  clear hL
  have H : ((fastjson_skipWS.f k a0).bind fun t161 => (if (t161.size : Int) = 0 then ((errors_New.f (⟨#[109, 105, 115, 115, 105, 110, 103, 32, 39, 93]⟩ : ByteArray)).bind fun t162 => (some (t161, t162))) else (if 0 < (t161.size : Int) then (if (bt t161 0) = 93 then (if 1 ≤ (t161.size : Int) then (some (t161.extract 1 t161.size, none)) else (none)) else (fastjson_validateArray.l0 k t161)) else (none)))) = some (r1, r2) := h
  clear h
  replace H := Option.bind_eq_some_iff.mp H
  obtain ⟨t161, A20, H⟩ := H
  replace H : (if (t161.size : Int) = 0 then ((errors_New.f (⟨#[109, 105, 115, 115, 105, 110, 103, 32, 39, 93]⟩ : ByteArray)).bind fun t162 => (some (t161, t162))) else (if 0 < (t161.size : Int) then (if (bt t161 0) = 93 then (if 1 ≤ (t161.size : Int) then (some (t161.extract 1 t161.size, none)) else (none)) else (fastjson_validateArray.l0 k t161)) else (none))) = some (r1, r2) := H
  have A2 := Aside0.mk A20
  clear A20
  by_cases c3 : (t161.size : Int) = 0
  · rw [if_pos c3] at H
    have c3b0 : ((t161.size : Int) == 0) = true := beq_iff_eq.mpr c3
    have c3b1 : ((t161.size : Int) != 0) = false := bne_eq_false_iff_eq.mpr c3
    clear c3
    replace H := Option.bind_eq_some_iff.mp H
    obtain ⟨t162, A40, H⟩ := H
    replace H : (some (t161, t162)) = some (r1, r2) := H
    have A4 := Aside0.mk A40
    clear A40
    simp only [Option.some.injEq, Prod.mk.injEq] at H
    obtain ⟨rfl, rfl⟩ := H
    go_enter Tryd.func110, Tryd.ntmps110
    go_wp2_with (first | ((with_reducible refine gate_callee (f := 90) rfl ?_); refine goesL_ (some 6) rfl rfl Tryd.func90 (by kernel_rfl) rfl #[.string a0] rfl (by (try simp only [List.map_toArray, List.map_cons, List.map_nil]); first | done | rfl | (simp only [List.length_drop, List.length_take]; rfl)) ?_; (with_reducible refine (fastjson_skipWS.calls k a0 t161 _ A2.out).mono ?_); rintro e w' ⟨rfl, ⟨nd, rfl⟩⟩; refine ⟨_, rfl, ?_⟩) | ((with_reducible refine gate_callee (f := 84) rfl ?_); refine goesL_ (some 11) rfl rfl Tryd.func84 (by kernel_rfl) rfl #[.string (⟨#[109, 105, 115, 115, 105, 110, 103, 32, 39, 93]⟩ : ByteArray)] rfl (by (try simp only [List.map_toArray, List.map_cons, List.map_nil]); first | done | rfl | (simp only [List.length_drop, List.length_take]; rfl)) ?_; (with_reducible refine (errors_New.calls (⟨#[109, 105, 115, 115, 105, 110, 103, 32, 39, 93]⟩ : ByteArray) t162 _ A4.out).mono ?_); rintro e w5 ⟨ex_t162, rfl, hb⟩; refine ⟨_, rfl, ?_⟩; have n0_ := Aside0.mk (below_step (by repeat (first | (with_reducible first | exact HB.out | apply below_alloc | apply pw_below_drewN | apply below_drew1) | exact HB.out)) hb); clear HB; have HB := n0_; clear n0_; (try clear hb); (try clear hb2); (try clear hk); (try clear hi); (try simp only [errX_none, errX_some])))
    go_ret2
    first | exact ⟨ex_t162, by first | rfl | (simp [errX_none, errX_some] <;> rfl) | (simp [*, errX_none, errX_some] <;> rfl), by repeat (first | (with_reducible first | exact HB.out | apply below_alloc | apply pw_below_drewN | apply below_drew1) | exact HB.out)⟩ | exact ⟨ex_t162.1, ex_t162.2, by first | rfl | (simp [errX_none, errX_some] <;> rfl) | (simp [*, errX_none, errX_some] <;> rfl), by repeat (first | (with_reducible first | exact HB.out | apply below_alloc | apply pw_below_drewN | apply below_drew1) | exact HB.out)⟩ | exact ⟨⟨ex_t162, by first | rfl | (simp [errX_none, errX_some] <;> rfl) | (simp [*, errX_none, errX_some] <;> rfl)⟩, by repeat (first | (with_reducible first | exact HB.out | apply below_alloc | apply pw_below_drewN | apply below_drew1) | exact HB.out)⟩ | exact ⟨⟨ex_t162.1, ex_t162.2, by first | rfl | (simp [errX_none, errX_some] <;> rfl) | (simp [*, errX_none, errX_some] <;> rfl)⟩, by repeat (first | (with_reducible first | exact HB.out | apply below_alloc | apply pw_below_drewN | apply below_drew1) | exact HB.out)⟩
  · rw [if_neg c3] at H
    have c3b0 : ((t161.size : Int) == 0) = false := beq_eq_false_iff_ne.mpr c3
    have c3b1 : ((t161.size : Int) != 0) = true := bne_iff_ne.mpr c3
    by_cases c6 : 0 < (t161.size : Int)
    · rw [if_pos c6] at H
      have c6b0 : decide (0 < (t161.size : Int)) = true := decide_eq_true c6
      have c6b1 : decide (0 < t161.size) = true := decide_eq_true (by omega)
      clear c6
      by_cases c8 : (bt t161 0) = 93
      · rw [if_pos c8] at H
        have c8b0 : ((bt t161 0) == 93) = true := beq_iff_eq.mpr c8
        have c8b1 : ((bt t161 0) != 93) = false := bne_eq_false_iff_eq.mpr c8
        clear c8
        by_cases c9 : 1 ≤ (t161.size : Int)
        · rw [if_pos c9] at H
          have c9b0 := eq_true c9
          have c9b1 : decide (1 ≤ (t161.size : Int)) = true := decide_eq_true c9
          clear c9
          simp only [Option.some.injEq, Prod.mk.injEq] at H
          obtain ⟨rfl, rfl⟩ := H
          go_enter Tryd.func110, Tryd.ntmps110
          go_wp2_with (first | ((with_reducible refine gate_callee (f := 90) rfl ?_); refine goesL_ (some 6) rfl rfl Tryd.func90 (by kernel_rfl) rfl #[.string a0] rfl (by (try simp only [List.map_toArray, List.map_cons, List.map_nil]); first | done | rfl | (simp only [List.length_drop, List.length_take]; rfl)) ?_; (with_reducible refine (fastjson_skipWS.calls k a0 t161 _ A2.out).mono ?_); rintro e w' ⟨rfl, ⟨nd, rfl⟩⟩; refine ⟨_, rfl, ?_⟩; have p7 : 0 ≤ (0 : Int) := (by omega); have q7 : 0 < t161.size := (by have : (0 : Int) < (t161.size : Int) := of_decide_eq_true (by first | (with_reducible assumption) | assumption); omega); have hx7 : ∀ h : 0 < t161.size, ((t161[0]'h).toNat : Int) = bt t161 0 := bt_at t161 0; clear p7; have qi7 : (0 < (t161.size : Int)) = True := eq_true (of_decide_eq_true (by first | (with_reducible assumption) | assumption)); replace q7 := eq_true q7))
          go_ret2
          first | exact ⟨noX, by first | rfl | (simp [errX_none, errX_some] <;> rfl) | (simp [*, errX_none, errX_some] <;> rfl), by repeat (first | (with_reducible first | exact HB.out | apply below_alloc | apply pw_below_drewN | apply below_drew1) | exact HB.out)⟩ | exact ⟨noX.1, noX.2, by first | rfl | (simp [errX_none, errX_some] <;> rfl) | (simp [*, errX_none, errX_some] <;> rfl), by repeat (first | (with_reducible first | exact HB.out | apply below_alloc | apply pw_below_drewN | apply below_drew1) | exact HB.out)⟩ | exact ⟨⟨noX, by first | rfl | (simp [errX_none, errX_some] <;> rfl) | (simp [*, errX_none, errX_some] <;> rfl)⟩, by repeat (first | (with_reducible first | exact HB.out | apply below_alloc | apply pw_below_drewN | apply below_drew1) | exact HB.out)⟩ | exact ⟨⟨noX.1, noX.2, by first | rfl | (simp [errX_none, errX_some] <;> rfl) | (simp [*, errX_none, errX_some] <;> rfl)⟩, by repeat (first | (with_reducible first | exact HB.out | apply below_alloc | apply pw_below_drewN | apply below_drew1) | exact HB.out)⟩
        · rw [if_neg c9] at H
          exact absurd H (by simp)
      · rw [if_neg c8] at H
        have c8b0 : ((bt t161 0) == 93) = false := beq_eq_false_iff_ne.mpr c8
        have c8b1 : ((bt t161 0) != 93) = true := bne_iff_ne.mpr c8
        have H' := Aside0.mk H
        clear H
        go_enter Tryd.func110, Tryd.ntmps110
        go_wp2_with (first | ((with_reducible refine gate_callee (f := 90) rfl ?_); refine goesL_ (some 6) rfl rfl Tryd.func90 (by kernel_rfl) rfl #[.string a0] rfl (by (try simp only [List.map_toArray, List.map_cons, List.map_nil]); first | done | rfl | (simp only [List.length_drop, List.length_take]; rfl)) ?_; (with_reducible refine (fastjson_skipWS.calls k a0 t161 _ A2.out).mono ?_); rintro e w' ⟨rfl, ⟨nd, rfl⟩⟩; refine ⟨_, rfl, ?_⟩; have p7 : 0 ≤ (0 : Int) := (by omega); have q7 : 0 < t161.size := (by have : (0 : Int) < (t161.size : Int) := of_decide_eq_true (by first | (with_reducible assumption) | assumption); omega); have hx7 : ∀ h : 0 < t161.size, ((t161[0]'h).toNat : Int) = bt t161 0 := bt_at t161 0; clear p7; have qi7 : (0 < (t161.size : Int)) = True := eq_true (of_decide_eq_true (by first | (with_reducible assumption) | assumption)); replace q7 := eq_true q7))
        (try simp only [Act.put, List.setIfInBounds_toArray, List.set_cons_zero, List.set_cons_succ])
        go_loopg [0] k (fun kq v0 w' => ∃ (x0_1 : ByteArray), v0 = .string x0_1 ∧ Aside0 (fastjson_validateArray.l0 kq x0_1 = some (r1, r2)) ∧ Aside0 (kq ≤ k) ∧ Aside0 (Below w.heap.size w w'))
        case atStart => exact ⟨(t161), (by first | rfl | (simp; done) | (simp [*]; done)), H', ⟨Nat.le_refl _⟩, ⟨by repeat (first | (with_reducible first | exact HB.out | apply below_alloc | apply pw_below_drewN | apply below_drew1) | exact HB.out)⟩⟩
        case round =>
          clear H'
          try clear c1
          try clear p2
          try clear c3
          try clear c3b0
          try clear c3b1
          try clear c6
          try clear c6b0
          try clear c6b1
          try clear p7
          try clear q7
          try clear hx7
          try clear qi7
          try clear c8
          try clear c8b0
          try clear c8b1
          try clear c9
          try clear c9b0
          try clear c9b1
          try clear p7
          try clear q7
          obtain ⟨x0_1, rfl, HA, HK1, HB⟩ := hrel
          cases gk with
          | zero => exact absurd HA.out (by simp [fastjson_validateArray.l0])
          | succ k1 =>
            have H := HA.out
            clear HA
            simp only [fastjson_validateArray.l0] at H
            replace H := Option.bind_eq_some_iff.mp H
            obtain ⟨t163, A100, H⟩ := H
            replace H : ((fastjson_validateValue.f k1 t163).bind fun bt164 => (if bt164.2.isNone = true then ((fastjson_skipWS.f k1 bt164.1).bind fun t167 => (if (t167.size : Int) = 0 then ((errors_New.f (⟨#[117, 110, 101, 120, 112, 101, 99, 116, 101, 100, 32, 101, 110, 100, 32, 111, 102, 32, 97, 114, 114, 97, 121]⟩ : ByteArray)).bind fun t168 => (some (t167, t168))) else (if 0 < (t167.size : Int) then (if (bt t167 0) = 44 then (if 1 ≤ (t167.size : Int) then (fastjson_validateArray.l0 k1 (t167.extract 1 t167.size)) else (none)) else (if (bt t167 0) = 93 then (if 1 ≤ (t167.size : Int) then (some (t167.extract 1 t167.size, none)) else (none)) else ((errors_New.f (⟨#[109, 105, 115, 115, 105, 110, 103, 32, 39, 44, 39, 32, 97, 102, 116, 101, 114, 32, 97, 114, 114, 97, 121, 32, 118, 97, 108, 117, 101]⟩ : ByteArray)).bind fun t169 => (some (t167, t169))))) else (none)))) else ((errors_New.f (⟨#[99, 97, 110, 110, 111, 116, 32, 112, 97, 114, 115, 101, 32, 97, 114, 114, 97, 121, 32, 118, 97, 108, 117, 101]⟩ : ByteArray)).bind fun t170 => (some (bt164.1, t170))))) = some (r1, r2) := H
            have A10 := Aside0.mk A100
            clear A100
            replace H := Option.bind_eq_some_iff.mp H
            obtain ⟨⟨t164, t165⟩, A110, H⟩ := H
            replace H : (if t165.isNone = true then ((fastjson_skipWS.f k1 t164).bind fun t167 => (if (t167.size : Int) = 0 then ((errors_New.f (⟨#[117, 110, 101, 120, 112, 101, 99, 116, 101, 100, 32, 101, 110, 100, 32, 111, 102, 32, 97, 114, 114, 97, 121]⟩ : ByteArray)).bind fun t168 => (some (t167, t168))) else (if 0 < (t167.size : Int) then (if (bt t167 0) = 44 then (if 1 ≤ (t167.size : Int) then (fastjson_validateArray.l0 k1 (t167.extract 1 t167.size)) else (none)) else (if (bt t167 0) = 93 then (if 1 ≤ (t167.size : Int) then (some (t167.extract 1 t167.size, none)) else (none)) else ((errors_New.f (⟨#[109, 105, 115, 115, 105, 110, 103, 32, 39, 44, 39, 32, 97, 102, 116, 101, 114, 32, 97, 114, 114, 97, 121, 32, 118, 97, 108, 117, 101]⟩ : ByteArray)).bind fun t169 => (some (t167, t169))))) else (none)))) else ((errors_New.f (⟨#[99, 97, 110, 110, 111, 116, 32, 112, 97, 114, 115, 101, 32, 97, 114, 114, 97, 121, 32, 118, 97, 108, 117, 101]⟩ : ByteArray)).bind fun t170 => (some (t164, t170)))) = some (r1, r2) := H
            have A11 := Aside0.mk A110
            clear A110
            rcases t165 with _ | q166
            · have H1 : ((fastjson_skipWS.f k1 t164).bind fun t167 => (if (t167.size : Int) = 0 then ((errors_New.f (⟨#[117, 110, 101, 120, 112, 101, 99, 116, 101, 100, 32, 101, 110, 100, 32, 111, 102, 32, 97, 114, 114, 97, 121]⟩ : ByteArray)).bind fun t168 => (some (t167, t168))) else (if 0 < (t167.size : Int) then (if (bt t167 0) = 44 then (if 1 ≤ (t167.size : Int) then (fastjson_validateArray.l0 k1 (t167.extract 1 t167.size)) else (none)) else (if (bt t167 0) = 93 then (if 1 ≤ (t167.size : Int) then (some (t167.extract 1 t167.size, none)) else (none)) else ((errors_New.f (⟨#[109, 105, 115, 115, 105, 110, 103, 32, 39, 44, 39, 32, 97, 102, 116, 101, 114, 32, 97, 114, 114, 97, 121, 32, 118, 97, 108, 117, 101]⟩ : ByteArray)).bind fun t169 => (some (t167, t169))))) else (none)))) = some (r1, r2) := by rw [if_pos (show (none : Option Int).isNone = true by rfl)] at H; exact H
              clear H
              have H := H1
              clear H1
              try simp only [errX_none, errX_some]
              replace H := Option.bind_eq_some_iff.mp H
              obtain ⟨t167, A120, H⟩ := H
              replace H : (if (t167.size : Int) = 0 then ((errors_New.f (⟨#[117, 110, 101, 120, 112, 101, 99, 116, 101, 100, 32, 101, 110, 100, 32, 111, 102, 32, 97, 114, 114, 97, 121]⟩ : ByteArray)).bind fun t168 => (some (t167, t168))) else (if 0 < (t167.size : Int) then (if (bt t167 0) = 44 then (if 1 ≤ (t167.size : Int) then (fastjson_validateArray.l0 k1 (t167.extract 1 t167.size)) else (none)) else (if (bt t167 0) = 93 then (if 1 ≤ (t167.size : Int) then (some (t167.extract 1 t167.size, none)) else (none)) else ((errors_New.f (⟨#[109, 105, 115, 115, 105, 110, 103, 32, 39, 44, 39, 32, 97, 102, 116, 101, 114, 32, 97, 114, 114, 97, 121, 32, 118, 97, 108, 117, 101]⟩ : ByteArray)).bind fun t169 => (some (t167, t169))))) else (none))) = some (r1, r2) := H
              have A12 := Aside0.mk A120
              clear A120
              by_cases c13 : (t167.size : Int) = 0
              · rw [if_pos c13] at H
                have c13b0 : ((t167.size : Int) == 0) = true := beq_iff_eq.mpr c13
                have c13b1 : ((t167.size : Int) != 0) = false := bne_eq_false_iff_eq.mpr c13
                clear c13
                replace H := Option.bind_eq_some_iff.mp H
                obtain ⟨t168, A140, H⟩ := H
                replace H : (some (t167, t168)) = some (r1, r2) := H
                have A14 := Aside0.mk A140
                clear A140
                simp only [Option.some.injEq, Prod.mk.injEq] at H
                obtain ⟨rfl, rfl⟩ := H
                go_wp2_with (first | ((with_reducible refine gate_callee (f := 90) rfl ?_); refine goesL_ (some 18) rfl rfl Tryd.func90 (by kernel_rfl) rfl #[.string x0_1] rfl (by (try simp only [List.map_toArray, List.map_cons, List.map_nil]); first | done | rfl | (simp only [List.length_drop, List.length_take]; rfl)) ?_; (with_reducible refine (fastjson_skipWS.calls k1 x0_1 t163 _ A10.out).mono ?_); rintro e w' ⟨rfl, ⟨nd, rfl⟩⟩; refine ⟨_, rfl, ?_⟩) | ((with_reducible refine gate_callee (f := 92) rfl ?_); refine goesL_ (some 21) rfl rfl Tryd.func92 (by kernel_rfl) rfl #[.string t163] rfl (by (try simp only [List.map_toArray, List.map_cons, List.map_nil]); first | done | rfl | (simp only [List.length_drop, List.length_take]; rfl)) ?_; (with_reducible refine ((IHG.out k1 (by have := HK1.out; omega)).2.2  t163 t164 none _ ?side1 A11.out).mono ?_); (case side1 => exact Laid.below HLD.out (by repeat (first | (with_reducible first | exact HB.out | apply below_alloc | apply pw_below_drewN | apply below_drew1) | exact HB.out))); rintro e w15 ⟨_, rfl, hb⟩; refine ⟨_, rfl, ?_⟩; have n0_ := Aside0.mk (below_step (by repeat (first | (with_reducible first | exact HB.out | apply below_alloc | apply pw_below_drewN | apply below_drew1) | exact HB.out)) hb); clear HB; have HB := n0_; clear n0_; (try clear hb); (try clear hb2); (try clear hk); (try clear hi); (try simp only [errX_none, errX_some])) | ((with_reducible refine gate_callee (f := 90) rfl ?_); refine goesL_ (some 29) rfl rfl Tryd.func90 (by kernel_rfl) rfl #[.string t164] rfl (by (try simp only [List.map_toArray, List.map_cons, List.map_nil]); first | done | rfl | (simp only [List.length_drop, List.length_take]; rfl)) ?_; (with_reducible refine (fastjson_skipWS.calls k1 t164 t167 _ A12.out).mono ?_); rintro e w' ⟨rfl, ⟨nd, rfl⟩⟩; refine ⟨_, rfl, ?_⟩) | ((with_reducible refine gate_callee (f := 84) rfl ?_); refine goesL_ (some 34) rfl rfl Tryd.func84 (by kernel_rfl) rfl #[.string (⟨#[117, 110, 101, 120, 112, 101, 99, 116, 101, 100, 32, 101, 110, 100, 32, 111, 102, 32, 97, 114, 114, 97, 121]⟩ : ByteArray)] rfl (by (try simp only [List.map_toArray, List.map_cons, List.map_nil]); first | done | rfl | (simp only [List.length_drop, List.length_take]; rfl)) ?_; (with_reducible refine (errors_New.calls (⟨#[117, 110, 101, 120, 112, 101, 99, 116, 101, 100, 32, 101, 110, 100, 32, 111, 102, 32, 97, 114, 114, 97, 121]⟩ : ByteArray) t168 _ A14.out).mono ?_); rintro e w16 ⟨ex_t168, rfl, hb⟩; refine ⟨_, rfl, ?_⟩; have n0_ := Aside0.mk (below_step (by repeat (first | (with_reducible first | exact HB.out | apply below_alloc | apply pw_below_drewN | apply below_drew1) | exact HB.out)) hb); clear HB; have HB := n0_; clear n0_; (try clear hb); (try clear hb2); (try clear hk); (try clear hi); (try simp only [errX_none, errX_some])))
                go_ret2
                first | exact ⟨ex_t168, by first | rfl | (simp [errX_none, errX_some] <;> rfl) | (simp [*, errX_none, errX_some] <;> rfl), by repeat (first | (with_reducible first | exact HB.out | apply below_alloc | apply pw_below_drewN | apply below_drew1) | exact HB.out)⟩ | exact ⟨ex_t168.1, ex_t168.2, by first | rfl | (simp [errX_none, errX_some] <;> rfl) | (simp [*, errX_none, errX_some] <;> rfl), by repeat (first | (with_reducible first | exact HB.out | apply below_alloc | apply pw_below_drewN | apply below_drew1) | exact HB.out)⟩ | exact ⟨⟨ex_t168, by first | rfl | (simp [errX_none, errX_some] <;> rfl) | (simp [*, errX_none, errX_some] <;> rfl)⟩, by repeat (first | (with_reducible first | exact HB.out | apply below_alloc | apply pw_below_drewN | apply below_drew1) | exact HB.out)⟩ | exact ⟨⟨ex_t168.1, ex_t168.2, by first | rfl | (simp [errX_none, errX_some] <;> rfl) | (simp [*, errX_none, errX_some] <;> rfl)⟩, by repeat (first | (with_reducible first | exact HB.out | apply below_alloc | apply pw_below_drewN | apply below_drew1) | exact HB.out)⟩
              · rw [if_neg c13] at H
                have c13b0 : ((t167.size : Int) == 0) = false := beq_eq_false_iff_ne.mpr c13
                have c13b1 : ((t167.size : Int) != 0) = true := bne_iff_ne.mpr c13
                by_cases c17 : 0 < (t167.size : Int)
                · rw [if_pos c17] at H
                  have c17b0 : decide (0 < (t167.size : Int)) = true := decide_eq_true c17
                  have c17b1 : decide (0 < t167.size) = true := decide_eq_true (by omega)
                  clear c17
                  by_cases c19 : (bt t167 0) = 44
                  · rw [if_pos c19] at H
                    have c19b0 : ((bt t167 0) == 44) = true := beq_iff_eq.mpr c19
                    have c19b1 : ((bt t167 0) != 44) = false := bne_eq_false_iff_eq.mpr c19
                    clear c19
                    by_cases c20 : 1 ≤ (t167.size : Int)
                    · rw [if_pos c20] at H
                      have c20b0 := eq_true c20
                      have c20b1 : decide (1 ≤ (t167.size : Int)) = true := decide_eq_true c20
                      clear c20
                      have H' := Aside0.mk H
                      clear H
                      go_wp2_with (first | ((with_reducible refine gate_callee (f := 90) rfl ?_); refine goesL_ (some 18) rfl rfl Tryd.func90 (by kernel_rfl) rfl #[.string x0_1] rfl (by (try simp only [List.map_toArray, List.map_cons, List.map_nil]); first | done | rfl | (simp only [List.length_drop, List.length_take]; rfl)) ?_; (with_reducible refine (fastjson_skipWS.calls k1 x0_1 t163 _ A10.out).mono ?_); rintro e w' ⟨rfl, ⟨nd, rfl⟩⟩; refine ⟨_, rfl, ?_⟩) | ((with_reducible refine gate_callee (f := 92) rfl ?_); refine goesL_ (some 21) rfl rfl Tryd.func92 (by kernel_rfl) rfl #[.string t163] rfl (by (try simp only [List.map_toArray, List.map_cons, List.map_nil]); first | done | rfl | (simp only [List.length_drop, List.length_take]; rfl)) ?_; (with_reducible refine ((IHG.out k1 (by have := HK1.out; omega)).2.2  t163 t164 none _ ?side1 A11.out).mono ?_); (case side1 => exact Laid.below HLD.out (by repeat (first | (with_reducible first | exact HB.out | apply below_alloc | apply pw_below_drewN | apply below_drew1) | exact HB.out))); rintro e w21 ⟨_, rfl, hb⟩; refine ⟨_, rfl, ?_⟩; have n0_ := Aside0.mk (below_step (by repeat (first | (with_reducible first | exact HB.out | apply below_alloc | apply pw_below_drewN | apply below_drew1) | exact HB.out)) hb); clear HB; have HB := n0_; clear n0_; (try clear hb); (try clear hb2); (try clear hk); (try clear hi); (try simp only [errX_none, errX_some])) | ((with_reducible refine gate_callee (f := 90) rfl ?_); refine goesL_ (some 29) rfl rfl Tryd.func90 (by kernel_rfl) rfl #[.string t164] rfl (by (try simp only [List.map_toArray, List.map_cons, List.map_nil]); first | done | rfl | (simp only [List.length_drop, List.length_take]; rfl)) ?_; (with_reducible refine (fastjson_skipWS.calls k1 t164 t167 _ A12.out).mono ?_); rintro e w' ⟨rfl, ⟨nd, rfl⟩⟩; refine ⟨_, rfl, ?_⟩; have p18 : 0 ≤ (0 : Int) := (by omega); have q18 : 0 < t167.size := (by have : (0 : Int) < (t167.size : Int) := of_decide_eq_true (by first | (with_reducible assumption) | assumption); omega); have hx18 : ∀ h : 0 < t167.size, ((t167[0]'h).toNat : Int) = bt t167 0 := bt_at t167 0; clear p18; have qi18 : (0 < (t167.size : Int)) = True := eq_true (of_decide_eq_true (by first | (with_reducible assumption) | assumption)); replace q18 := eq_true q18))
                      go_roundg k1
                      case measure => have := HK1.out; omega
                      case rel => exact ⟨(t167.extract 1 t167.size), (by first | rfl | (simp; done) | (simp [*]; done)), H', ⟨by have := HK1.out; omega⟩, ⟨by repeat (first | (with_reducible first | exact HB.out | apply below_alloc | apply pw_below_drewN | apply below_drew1) | exact HB.out)⟩⟩
                    · rw [if_neg c20] at H
                      exact absurd H (by simp)
                  · rw [if_neg c19] at H
                    have c19b0 : ((bt t167 0) == 44) = false := beq_eq_false_iff_ne.mpr c19
                    have c19b1 : ((bt t167 0) != 44) = true := bne_iff_ne.mpr c19
                    by_cases c23 : (bt t167 0) = 93
                    · rw [if_pos c23] at H
                      have c23b0 : ((bt t167 0) == 93) = true := beq_iff_eq.mpr c23
                      have c23b1 : ((bt t167 0) != 93) = false := bne_eq_false_iff_eq.mpr c23
                      clear c23
                      by_cases c24 : 1 ≤ (t167.size : Int)
                      · rw [if_pos c24] at H
                        have c24b0 := eq_true c24
                        have c24b1 : decide (1 ≤ (t167.size : Int)) = true := decide_eq_true c24
                        clear c24
                        simp only [Option.some.injEq, Prod.mk.injEq] at H
                        obtain ⟨rfl, rfl⟩ := H
                        go_wp2_with (first | ((with_reducible refine gate_callee (f := 90) rfl ?_); refine goesL_ (some 18) rfl rfl Tryd.func90 (by kernel_rfl) rfl #[.string x0_1] rfl (by (try simp only [List.map_toArray, List.map_cons, List.map_nil]); first | done | rfl | (simp only [List.length_drop, List.length_take]; rfl)) ?_; (with_reducible refine (fastjson_skipWS.calls k1 x0_1 t163 _ A10.out).mono ?_); rintro e w' ⟨rfl, ⟨nd, rfl⟩⟩; refine ⟨_, rfl, ?_⟩) | ((with_reducible refine gate_callee (f := 92) rfl ?_); refine goesL_ (some 21) rfl rfl Tryd.func92 (by kernel_rfl) rfl #[.string t163] rfl (by (try simp only [List.map_toArray, List.map_cons, List.map_nil]); first | done | rfl | (simp only [List.length_drop, List.length_take]; rfl)) ?_; (with_reducible refine ((IHG.out k1 (by have := HK1.out; omega)).2.2  t163 t164 none _ ?side1 A11.out).mono ?_); (case side1 => exact Laid.below HLD.out (by repeat (first | (with_reducible first | exact HB.out | apply below_alloc | apply pw_below_drewN | apply below_drew1) | exact HB.out))); rintro e w25 ⟨_, rfl, hb⟩; refine ⟨_, rfl, ?_⟩; have n0_ := Aside0.mk (below_step (by repeat (first | (with_reducible first | exact HB.out | apply below_alloc | apply pw_below_drewN | apply below_drew1) | exact HB.out)) hb); clear HB; have HB := n0_; clear n0_; (try clear hb); (try clear hb2); (try clear hk); (try clear hi); (try simp only [errX_none, errX_some])) | ((with_reducible refine gate_callee (f := 90) rfl ?_); refine goesL_ (some 29) rfl rfl Tryd.func90 (by kernel_rfl) rfl #[.string t164] rfl (by (try simp only [List.map_toArray, List.map_cons, List.map_nil]); first | done | rfl | (simp only [List.length_drop, List.length_take]; rfl)) ?_; (with_reducible refine (fastjson_skipWS.calls k1 t164 t167 _ A12.out).mono ?_); rintro e w' ⟨rfl, ⟨nd, rfl⟩⟩; refine ⟨_, rfl, ?_⟩; have p18 : 0 ≤ (0 : Int) := (by omega); have q18 : 0 < t167.size := (by have : (0 : Int) < (t167.size : Int) := of_decide_eq_true (by first | (with_reducible assumption) | assumption); omega); have hx18 : ∀ h : 0 < t167.size, ((t167[0]'h).toNat : Int) = bt t167 0 := bt_at t167 0; clear p18; have qi18 : (0 < (t167.size : Int)) = True := eq_true (of_decide_eq_true (by first | (with_reducible assumption) | assumption)); replace q18 := eq_true q18; have p22 : 0 ≤ (0 : Int) := (by omega); have q22 : 0 < t167.size := (by have : (0 : Int) < (t167.size : Int) := of_decide_eq_true (by first | (with_reducible assumption) | assumption); omega); have hx22 : ∀ h : 0 < t167.size, ((t167[0]'h).toNat : Int) = bt t167 0 := bt_at t167 0; clear p22; have qi22 : (0 < (t167.size : Int)) = True := eq_true (of_decide_eq_true (by first | (with_reducible assumption) | assumption)); replace q22 := eq_true q22))
                        go_ret2
                        first | exact ⟨noX, by first | rfl | (simp [errX_none, errX_some] <;> rfl) | (simp [*, errX_none, errX_some] <;> rfl), by repeat (first | (with_reducible first | exact HB.out | apply below_alloc | apply pw_below_drewN | apply below_drew1) | exact HB.out)⟩ | exact ⟨noX.1, noX.2, by first | rfl | (simp [errX_none, errX_some] <;> rfl) | (simp [*, errX_none, errX_some] <;> rfl), by repeat (first | (with_reducible first | exact HB.out | apply below_alloc | apply pw_below_drewN | apply below_drew1) | exact HB.out)⟩ | exact ⟨⟨noX, by first | rfl | (simp [errX_none, errX_some] <;> rfl) | (simp [*, errX_none, errX_some] <;> rfl)⟩, by repeat (first | (with_reducible first | exact HB.out | apply below_alloc | apply pw_below_drewN | apply below_drew1) | exact HB.out)⟩ | exact ⟨⟨noX.1, noX.2, by first | rfl | (simp [errX_none, errX_some] <;> rfl) | (simp [*, errX_none, errX_some] <;> rfl)⟩, by repeat (first | (with_reducible first | exact HB.out | apply below_alloc | apply pw_below_drewN | apply below_drew1) | exact HB.out)⟩
                      · rw [if_neg c24] at H
                        exact absurd H (by simp)
                    · rw [if_neg c23] at H
                      have c23b0 : ((bt t167 0) == 93) = false := beq_eq_false_iff_ne.mpr c23
                      have c23b1 : ((bt t167 0) != 93) = true := bne_iff_ne.mpr c23
                      replace H := Option.bind_eq_some_iff.mp H
                      obtain ⟨t169, A260, H⟩ := H
                      replace H : (some (t167, t169)) = some (r1, r2) := H
                      have A26 := Aside0.mk A260
                      clear A260
                      simp only [Option.some.injEq, Prod.mk.injEq] at H
                      obtain ⟨rfl, rfl⟩ := H
                      go_wp2_with (first | ((with_reducible refine gate_callee (f := 90) rfl ?_); refine goesL_ (some 18) rfl rfl Tryd.func90 (by kernel_rfl) rfl #[.string x0_1] rfl (by (try simp only [List.map_toArray, List.map_cons, List.map_nil]); first | done | rfl | (simp only [List.length_drop, List.length_take]; rfl)) ?_; (with_reducible refine (fastjson_skipWS.calls k1 x0_1 t163 _ A10.out).mono ?_); rintro e w' ⟨rfl, ⟨nd, rfl⟩⟩; refine ⟨_, rfl, ?_⟩) | ((with_reducible refine gate_callee (f := 92) rfl ?_); refine goesL_ (some 21) rfl rfl Tryd.func92 (by kernel_rfl) rfl #[.string t163] rfl (by (try simp only [List.map_toArray, List.map_cons, List.map_nil]); first | done | rfl | (simp only [List.length_drop, List.length_take]; rfl)) ?_; (with_reducible refine ((IHG.out k1 (by have := HK1.out; omega)).2.2  t163 t164 none _ ?side1 A11.out).mono ?_); (case side1 => exact Laid.below HLD.out (by repeat (first | (with_reducible first | exact HB.out | apply below_alloc | apply pw_below_drewN | apply below_drew1) | exact HB.out))); rintro e w27 ⟨_, rfl, hb⟩; refine ⟨_, rfl, ?_⟩; have n0_ := Aside0.mk (below_step (by repeat (first | (with_reducible first | exact HB.out | apply below_alloc | apply pw_below_drewN | apply below_drew1) | exact HB.out)) hb); clear HB; have HB := n0_; clear n0_; (try clear hb); (try clear hb2); (try clear hk); (try clear hi); (try simp only [errX_none, errX_some])) | ((with_reducible refine gate_callee (f := 90) rfl ?_); refine goesL_ (some 29) rfl rfl Tryd.func90 (by kernel_rfl) rfl #[.string t164] rfl (by (try simp only [List.map_toArray, List.map_cons, List.map_nil]); first | done | rfl | (simp only [List.length_drop, List.length_take]; rfl)) ?_; (with_reducible refine (fastjson_skipWS.calls k1 t164 t167 _ A12.out).mono ?_); rintro e w' ⟨rfl, ⟨nd, rfl⟩⟩; refine ⟨_, rfl, ?_⟩; have p18 : 0 ≤ (0 : Int) := (by omega); have q18 : 0 < t167.size := (by have : (0 : Int) < (t167.size : Int) := of_decide_eq_true (by first | (with_reducible assumption) | assumption); omega); have hx18 : ∀ h : 0 < t167.size, ((t167[0]'h).toNat : Int) = bt t167 0 := bt_at t167 0; clear p18; have qi18 : (0 < (t167.size : Int)) = True := eq_true (of_decide_eq_true (by first | (with_reducible assumption) | assumption)); replace q18 := eq_true q18; have p22 : 0 ≤ (0 : Int) := (by omega); have q22 : 0 < t167.size := (by have : (0 : Int) < (t167.size : Int) := of_decide_eq_true (by first | (with_reducible assumption) | assumption); omega); have hx22 : ∀ h : 0 < t167.size, ((t167[0]'h).toNat : Int) = bt t167 0 := bt_at t167 0; clear p22; have qi22 : (0 < (t167.size : Int)) = True := eq_true (of_decide_eq_true (by first | (with_reducible assumption) | assumption)); replace q22 := eq_true q22) | ((with_reducible refine gate_callee (f := 84) rfl ?_); refine goesL_ (some 47) rfl rfl Tryd.func84 (by kernel_rfl) rfl #[.string (⟨#[109, 105, 115, 115, 105, 110, 103, 32, 39, 44, 39, 32, 97, 102, 116, 101, 114, 32, 97, 114, 114, 97, 121, 32, 118, 97, 108, 117, 101]⟩ : ByteArray)] rfl (by (try simp only [List.map_toArray, List.map_cons, List.map_nil]); first | done | rfl | (simp only [List.length_drop, List.length_take]; rfl)) ?_; (with_reducible refine (errors_New.calls (⟨#[109, 105, 115, 115, 105, 110, 103, 32, 39, 44, 39, 32, 97, 102, 116, 101, 114, 32, 97, 114, 114, 97, 121, 32, 118, 97, 108, 117, 101]⟩ : ByteArray) t169 _ A26.out).mono ?_); rintro e w28 ⟨ex_t169, rfl, hb⟩; refine ⟨_, rfl, ?_⟩; have n0_ := Aside0.mk (below_step (by repeat (first | (with_reducible first | exact HB.out | apply below_alloc | apply pw_below_drewN | apply below_drew1) | exact HB.out)) hb); clear HB; have HB := n0_; clear n0_; (try clear hb); (try clear hb2); (try clear hk); (try clear hi); (try simp only [errX_none, errX_some])))
                      go_ret2
                      first | exact ⟨ex_t169, by first | rfl | (simp [errX_none, errX_some] <;> rfl) | (simp [*, errX_none, errX_some] <;> rfl), by repeat (first | (with_reducible first | exact HB.out | apply below_alloc | apply pw_below_drewN | apply below_drew1) | exact HB.out)⟩ | exact ⟨ex_t169.1, ex_t169.2, by first | rfl | (simp [errX_none, errX_some] <;> rfl) | (simp [*, errX_none, errX_some] <;> rfl), by repeat (first | (with_reducible first | exact HB.out | apply below_alloc | apply pw_below_drewN | apply below_drew1) | exact HB.out)⟩ | exact ⟨⟨ex_t169, by first | rfl | (simp [errX_none, errX_some] <;> rfl) | (simp [*, errX_none, errX_some] <;> rfl)⟩, by repeat (first | (with_reducible first | exact HB.out | apply below_alloc | apply pw_below_drewN | apply below_drew1) | exact HB.out)⟩ | exact ⟨⟨ex_t169.1, ex_t169.2, by first | rfl | (simp [errX_none, errX_some] <;> rfl) | (simp [*, errX_none, errX_some] <;> rfl)⟩, by repeat (first | (with_reducible first | exact HB.out | apply below_alloc | apply pw_below_drewN | apply below_drew1) | exact HB.out)⟩
                · rw [if_neg c17] at H
                  exact absurd H (by simp)
            · have H1 : ((errors_New.f (⟨#[99, 97, 110, 110, 111, 116, 32, 112, 97, 114, 115, 101, 32, 97, 114, 114, 97, 121, 32, 118, 97, 108, 117, 101]⟩ : ByteArray)).bind fun t170 => (some (t164, t170))) = some (r1, r2) := by rw [if_neg (show ¬ (some q166).isNone = true by simp)] at H; exact H
              clear H
              have H := H1
              clear H1
              try simp only [errX_none, errX_some]
              replace H := Option.bind_eq_some_iff.mp H
              obtain ⟨t170, A290, H⟩ := H
              replace H : (some (t164, t170)) = some (r1, r2) := H
              have A29 := Aside0.mk A290
              clear A290
              simp only [Option.some.injEq, Prod.mk.injEq] at H
              obtain ⟨rfl, rfl⟩ := H
              go_wp2_with (first | ((with_reducible refine gate_callee (f := 90) rfl ?_); refine goesL_ (some 18) rfl rfl Tryd.func90 (by kernel_rfl) rfl #[.string x0_1] rfl (by (try simp only [List.map_toArray, List.map_cons, List.map_nil]); first | done | rfl | (simp only [List.length_drop, List.length_take]; rfl)) ?_; (with_reducible refine (fastjson_skipWS.calls k1 x0_1 t163 _ A10.out).mono ?_); rintro e w' ⟨rfl, ⟨nd, rfl⟩⟩; refine ⟨_, rfl, ?_⟩) | ((with_reducible refine gate_callee (f := 92) rfl ?_); refine goesL_ (some 21) rfl rfl Tryd.func92 (by kernel_rfl) rfl #[.string t163] rfl (by (try simp only [List.map_toArray, List.map_cons, List.map_nil]); first | done | rfl | (simp only [List.length_drop, List.length_take]; rfl)) ?_; (with_reducible refine ((IHG.out k1 (by have := HK1.out; omega)).2.2  t163 t164 (some q166) _ ?side1 A11.out).mono ?_); (case side1 => exact Laid.below HLD.out (by repeat (first | (with_reducible first | exact HB.out | apply below_alloc | apply pw_below_drewN | apply below_drew1) | exact HB.out))); rintro e w30 ⟨ex_t165, rfl, hb⟩; refine ⟨_, rfl, ?_⟩; have n0_ := Aside0.mk (below_step (by repeat (first | (with_reducible first | exact HB.out | apply below_alloc | apply pw_below_drewN | apply below_drew1) | exact HB.out)) hb); clear HB; have HB := n0_; clear n0_; (try clear hb); (try clear hb2); (try clear hk); (try clear hi); (try simp only [errX_none, errX_some])) | ((with_reducible refine gate_callee (f := 84) rfl ?_); refine goesL_ (some 27) rfl rfl Tryd.func84 (by kernel_rfl) rfl #[.string (⟨#[99, 97, 110, 110, 111, 116, 32, 112, 97, 114, 115, 101, 32, 97, 114, 114, 97, 121, 32, 118, 97, 108, 117, 101]⟩ : ByteArray)] rfl (by (try simp only [List.map_toArray, List.map_cons, List.map_nil]); first | done | rfl | (simp only [List.length_drop, List.length_take]; rfl)) ?_; (with_reducible refine (errors_New.calls (⟨#[99, 97, 110, 110, 111, 116, 32, 112, 97, 114, 115, 101, 32, 97, 114, 114, 97, 121, 32, 118, 97, 108, 117, 101]⟩ : ByteArray) t170 _ A29.out).mono ?_); rintro e w31 ⟨ex_t170, rfl, hb⟩; refine ⟨_, rfl, ?_⟩; have n0_ := Aside0.mk (below_step (by repeat (first | (with_reducible first | exact HB.out | apply below_alloc | apply pw_below_drewN | apply below_drew1) | exact HB.out)) hb); clear HB; have HB := n0_; clear n0_; (try clear hb); (try clear hb2); (try clear hk); (try clear hi); (try simp only [errX_none, errX_some])))
              go_ret2
              first | exact ⟨ex_t170, by first | rfl | (simp [errX_none, errX_some] <;> rfl) | (simp [*, errX_none, errX_some] <;> rfl), by repeat (first | (with_reducible first | exact HB.out | apply below_alloc | apply pw_below_drewN | apply below_drew1) | exact HB.out)⟩ | exact ⟨ex_t170.1, ex_t170.2, by first | rfl | (simp [errX_none, errX_some] <;> rfl) | (simp [*, errX_none, errX_some] <;> rfl), by repeat (first | (with_reducible first | exact HB.out | apply below_alloc | apply pw_below_drewN | apply below_drew1) | exact HB.out)⟩ | exact ⟨⟨ex_t170, by first | rfl | (simp [errX_none, errX_some] <;> rfl) | (simp [*, errX_none, errX_some] <;> rfl)⟩, by repeat (first | (with_reducible first | exact HB.out | apply below_alloc | apply pw_below_drewN | apply below_drew1) | exact HB.out)⟩ | exact ⟨⟨ex_t170.1, ex_t170.2, by first | rfl | (simp [errX_none, errX_some] <;> rfl) | (simp [*, errX_none, errX_some] <;> rfl)⟩, by repeat (first | (with_reducible first | exact HB.out | apply below_alloc | apply pw_below_drewN | apply below_drew1) | exact HB.out)⟩
    · rw [if_neg c6] at H
      exact absurd H (by simp)

end Go.Proofs.YtfmllmlloekojaaDoor.PFnFjCheckMembers
